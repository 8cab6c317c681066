import PyProof.Rows.All
import Wide.All
import OpenK.AllK
import Wide.FinOn
import PySem.Challenge.RW_km0084_02
section
open PySem PySem.Calls PyProof.Rows
set_option Elab.async false
set_option linter.unusedVariables false
namespace PL

/-! abstract values -/
inductive V where
  | none
  | bool (b : Bool)
  | int (i : Int)
  | txt (o : Bool) (l : List Nat)
  | tup (vs : List V)
  | lst (vs : List V)
  | ref (a : Addr)
  | con (v : Value)
  | rng (a b c : Int)
  | opq (T : String)

abbrev Z := Addr → Option Obj
def Z.le (z z' : Z) : Prop := ∀ b o, z b = some o → z' b = some o
theorem Z.le_refl (z : Z) : Z.le z z := fun _ _ h => h
theorem Z.le_trans {a b c : Z} (h : Z.le a b) (k : Z.le b c) : Z.le a c := fun x o e => k x o (h x o e)
def Z.put (z : Z) (a : Addr) (o : Obj) : Z := fun b => if b = a then some o else z b

abbrev tupO (items : List Value) (n : Nat) : Obj := { cls := .type "tuple", data := .seq items.toArray n }
abbrev lstO (items : List Value) (n : Nat) : Obj := { cls := .type "list", data := .seq items.toArray n }

mutual
inductive Rep (z : Z) : V → Value → Prop
  | none : Rep z .none .none
  | bool (b : Bool) : Rep z (.bool b) (.bool b)
  | int (i : Int) (t : Tok) : Rep z (.int i) (.int i t)
  | str (l : List Nat) (t : Tok) : Rep z (.txt false l) (.str ⟨l.toArray⟩ t)
  | bytes (l : List Nat) (t : Tok) (h : ∀ c ∈ l, c < 256) : Rep z (.txt true l) (.bytes (l.map UInt8.ofNat).toArray t)
  | tup {vs : List V} {a : Addr} {items : List Value} {n : Nat} (h : z a = some (tupO items n)) (hr : RepL z vs items) : Rep z (.tup vs) (.ref a)
  | lst {vs : List V} {a : Addr} {items : List Value} {n : Nat} (h : z a = some (lstO items n)) (hr : RepL z vs items) : Rep z (.lst vs) (.ref a)
  | ref (a : Addr) : Rep z (.ref a) (.ref a)
  | con (v : Value) : Rep z (.con v) v
  | rng {x y w : Int} {a : Addr} {t u v : Tok} (h : z a = some { cls := .type "range", dict := none, data := .fields #[.int x t, .int y u, .int w v], slots := #[] }) : Rep z (.rng x y w) (.ref a)
  | opq {T : String} {a : Addr} {o : Obj} (h : z a = some o) (hc : o.cls = .type T) : Rep z (.opq T) (.ref a)
inductive RepL (z : Z) : List V → List Value → Prop
  | nil : RepL z [] []
  | cons {v : V} {x : Value} {vs : List V} {xs : List Value} (h : Rep z v x) (t : RepL z vs xs) : RepL z (v :: vs) (x :: xs)
end

mutual
theorem Rep.mono {z z' : Z} (h : Z.le z z') : ∀ {v : V} {x : Value}, Rep z v x → Rep z' v x
  | _, _, .none => .none
  | _, _, .bool b => .bool b
  | _, _, .int i t => .int i t
  | _, _, .str l t => .str l t
  | _, _, .bytes l t k => .bytes l t k
  | _, _, .tup e hr => .tup (h _ _ e) (hr.mono h)
  | _, _, .lst e hr => .lst (h _ _ e) (hr.mono h)
  | _, _, .ref a => .ref a
  | _, _, .con v => .con v
  | _, _, .rng e => .rng (h _ _ e)
  | _, _, .opq e hc => .opq (h _ _ e) hc
theorem RepL.mono {z z' : Z} (h : Z.le z z') : ∀ {v : List V} {x : List Value}, RepL z v x → RepL z' v x
  | _, _, .nil => .nil
  | _, _, .cons a b => .cons (a.mono h) (b.mono h)
end

theorem RepL.length {z : Z} : ∀ {vs : List V} {xs : List Value}, RepL z vs xs → xs.length = vs.length
  | _, _, .nil => rfl
  | _, _, .cons _ t => by simp [t.length]
theorem RepL.append {z : Z} : ∀ {vs vs' : List V} {xs xs' : List Value}, RepL z vs xs → RepL z vs' xs' → RepL z (vs ++ vs') (xs ++ xs')
  | _, _, _, _, .nil, h => h
  | _, _, _, _, .cons a t, h => .cons a (t.append h)
theorem RepL.get {z : Z} : ∀ {vs : List V} {xs : List Value}, RepL z vs xs → ∀ {i : Nat} {v : V}, vs[i]? = some v → ∃ x, xs[i]? = some x ∧ Rep z v x
  | _, _, .nil, i, v, h => by simp at h
  | _, _, .cons a t, 0, v, h => by simp at h; subst h; exact ⟨_, rfl, a⟩
  | _, _, .cons a t, i + 1, v, h => by simpa using t.get (i := i) (by simpa using h)

/-! the live objects of the ledger -/
inductive AO where
  | list (vs : List V)
  | dictS (kvs : List (List Nat × V))
  | dictI (kvs : List (Int × V))

structure Gd where
  prog : Program
  w : World
  base : Heap
  os : OsState
  mg : Str → Option Value
  mb : Str → Option Value
  hmg : base.Ns mainGlobals mg
  hmb : base.Ns builtinsNs mb
  lim : base.NoLimit
  hbi : ∀ x : Str, x ≠ "__name__" → mb x = bootBuiltins x

def strOf (l : List Nat) : Str := ⟨l.toArray⟩

def AOK (g : Gd) (z : Z) (h : Heap) (a : Addr) : AO → Prop
  | .list vs => ∃ items n, h.get? a = some (lstO items n) ∧ RepL z vs items
  | .dictS kvs => ∃ xs ep, h.DictAt (strKind g.prog g.w) a ((kvs.map fun p => strOf p.1).zip xs) ep ∧ RepL z (kvs.map (·.2)) xs
  | .dictI kvs => ∃ xs ep, h.DictAt (intKind g.prog g.w) a ((kvs.map fun p => p.1).zip xs) ep ∧ RepL z (kvs.map (·.2)) xs

theorem AOK.mono {g : Gd} {z z' : Z} {h : Heap} {a : Addr} (hz : Z.le z z') : ∀ {o : AO}, AOK g z h a o → AOK g z' h a o
  | .list _, ⟨i, n, x, r⟩ => ⟨i, n, x, r.mono hz⟩
  | .dictS _, ⟨i, e, x, r⟩ => ⟨i, e, x, r.mono hz⟩
  | .dictI _, ⟨i, e, x, r⟩ => ⟨i, e, x, r.mono hz⟩
theorem AOK.keep {g : Gd} {z : Z} {h h' : Heap} {a : Addr} (e : ∀ o, h.get? a = some o → h'.get? a = some o) : ∀ {o : AO}, AOK g z h a o → AOK g z h' a o
  | .list _, ⟨i, n, x, r⟩ => ⟨i, n, e _ x, r⟩
  | .dictS _, ⟨i, ep, x, r⟩ => ⟨i, ep, let ⟨o, es, ho, q⟩ := x; ⟨o, es, e o ho, q⟩, r⟩
  | .dictI _, ⟨i, ep, x, r⟩ => ⟨i, ep, let ⟨o, es, ho, q⟩ := x; ⟨o, es, e o ho, q⟩, r⟩

abbrev Led := List (Addr × AO)
structure St where
  loc : List (Str × V)
  H : Led

/-- the heap's part of the relation -/
structure RH (g : Gd) (zs : Z) (H : Led) (z : Z) (s : Shared) : Prop where
  hz : ∀ b o, z b = some o → s.heap.get? b = some o
  hbase : ∀ b o, g.base.get? b = some o → z b = some o
  hzs : ∀ b o, zs b = some o → ∃ sl, s.heap.get? b = some { o with slots := sl } ∧ ((∀ vs, o.data ≠ .dict vs) → sl = o.slots)
  disj : ∀ b o, zs b = some o → z b = none
  hH : ∀ p ∈ H, AOK g z s.heap p.1 p.2 ∧ z p.1 = none ∧ zs p.1 = none
  nodup : (H.map (·.1)).Nodup
  gens : s.gens = #[]
  os : s.os = g.os

structure Cx where
  g : Gd
  A : Around
  env : Env
  outer : List Env
  n : Nat
  ro : List Str := []
  hk : env.scope.kind = .function
  hglob : env.globals = mainGlobals
  hbuilt : env.builtins = builtinsNs
  hdep : A.depth + n ≤ 900
  hunits : A.units + 20 * n ≤ 9000
  hframes : (A.frames = some (env :: outer) ∧ env.frame = some env.locals) ∨ A.frames = some outer
  apart : env.cells.Pairwise fun x y => x.2 ≠ y.2

abbrev Cx.M (C : Cx) : Model := model C.g.prog C.g.w

def cellish : Option NameKind → Bool
  | some .cell => true
  | some .free => true
  | _ => false

structure FrOK (outer : List Env) (zs : Z) : Prop where
  ok : ∀ e ∈ outer, e.scope.kind ≠ .module ∧ ∃ L o, e.frame = some L ∧ zs L = some o ∧ ∀ vs, o.data ≠ .fields vs

structure R (C : Cx) (zs : Z) (σ : St) (z : Z) (s : Shared) : Prop where
  rh : RH C.g zs σ.H z s
  ns : ∃ m, s.heap.Ns C.env.locals m ∧ ∀ x v, σ.loc.lookup x = some v → C.env.kindOf x = some .local → ∃ val, m x = some val ∧ Rep z v val
  cells : ∀ x v, σ.loc.lookup x = some v → cellish (C.env.kindOf x) = true → ∃ c val, C.env.cells.lookup x = some c ∧ s.heap.IsCell c (some val) ∧ Rep z v val
  cellsOk : ∀ p ∈ C.env.cells, (∃ ov, s.heap.IsCell p.2 ov) ∧ z p.2 = none ∧ (zs p.2 = none ∨ p.1 ∈ C.ro) ∧ p.2 ≠ C.env.locals ∧ p.2 ∉ σ.H.map (·.1)
  locFree : z C.env.locals = none ∧ zs C.env.locals = none ∧ C.env.locals ∉ σ.H.map (·.1)
  fr : FrOK C.outer zs

abbrev XP := String → St → Prop

/-- a flying exception (what a handler needs of it) -/
structure Fly (g : Gd) (zs : Z) (H : Led) (z : Z) (s : Shared) (e : Value) (cls : String) : Prop where
  no : False

def PX (C : Cx) (zs z : Z) (X : XP) (e : Value) (s' : Shared) : Prop :=
  ∃ z' σ' cls, Z.le z z' ∧ R C zs σ' z' s' ∧ Fly C.g zs σ'.H z' s' e cls ∧ X cls σ'
theorem PX.le {C : Cx} {zs z z1 : Z} {X : XP} {e : Value} {s : Shared} (h : Z.le z z1) : PX C zs z1 X e s → PX C zs z X e s :=
  fun ⟨z', σ', cls, l, r, f, x⟩ => ⟨z', σ', cls, Z.le_trans h l, r, f, x⟩

def TT {α : Type} (C : Cx) (z₀ : Z) (t : Sem α) (P : Z → α → St → Prop) (X : XP) (σ : St) : Prop :=
  ∀ zs z s, Z.le z₀ z → R C zs σ z s →
    wpAny C.M C.A t (fun a s' => ∃ z' σ', Z.le z z' ∧ R C zs σ' z' s' ∧ P z' a σ') (PX C zs z X) s

section
variable {α β : Type} {C : Cx} {z₀ : Z} {X : XP} {σ : St}

theorem TT.bind {m : Sem α} {f : α → Sem β} {P : Z → β → St → Prop} (h : TT C z₀ m (fun z a σ1 => TT C z (f a) P X σ1) X σ) : TT C z₀ (m >>= f) P X σ := by
  intro zs z s hz hR
  refine wpAny_bind (wpAny_mono (h zs z s hz hR) ?_ fun _ _ x => x)
  rintro a s1 ⟨z1, σ1, l1, R1, k⟩
  refine wpAny_mono (k zs z1 s1 (Z.le_refl _) R1) ?_ fun _ _ x => PX.le l1 x
  rintro b s2 ⟨z2, σ2, l2, R2, q⟩
  exact ⟨z2, σ2, Z.le_trans l1 l2, R2, q⟩
theorem TT.pure {a : α} {P : Z → α → St → Prop} (h : ∀ z, Z.le z₀ z → P z a σ) : TT C z₀ (Pure.pure a) P X σ :=
  fun _ z _ hz hR => wpAny_pure ⟨z, σ, Z.le_refl _, hR, h z hz⟩
theorem TT.mono {t : Sem α} {P P' : Z → α → St → Prop} (h : TT C z₀ t P X σ) (k : ∀ z a σ', Z.le z₀ z → P z a σ' → P' z a σ') : TT C z₀ t P' X σ := by
  intro zs z s hz hR
  refine wpAny_mono (h zs z s hz hR) ?_ fun _ _ x => x
  rintro a s1 ⟨z1, σ1, l1, R1, q⟩
  exact ⟨z1, σ1, l1, R1, k _ _ _ (Z.le_trans hz l1) q⟩
theorem TT.eq {t : Sem α} {a : α} {P : Z → α → St → Prop} (e : t = Pure.pure a) (h : ∀ z, Z.le z₀ z → P z a σ) : TT C z₀ t P X σ := e ▸ TT.pure h
theorem TT.holding {vs : List Value} {t : Sem α} {P : Z → α → St → Prop} (h : TT C z₀ t P X σ) : TT C z₀ (PySem.holding vs t) P X σ :=
  fun zs z s hz hR => wpAny_holding (h zs z s hz hR)
theorem TT.operate {vs : List Value} {t : Sem Value} {P : Z → Value → St → Prop} (h : TT C z₀ t P X σ) : TT C z₀ (PySem.operate vs t) P X σ :=
  fun zs z s hz hR => wpAny_operate' (h zs z s hz hR)
theorem TT.at_ {p : Pos} {f : Unit → Sem α} {P : Z → α → St → Prop} (h : TT C z₀ (f ()) P X σ) : TT C z₀ (standAt p >>= f) P X σ :=
  fun zs z s hz hR => wpAny_bind (wpAny_standAt (h zs z s hz hR))
end

/-- what an expression hands on -/
def PVal (Q : V → St → Prop) : Z → Value → St → Prop := fun z val σ => ∃ v, Rep z v val ∧ Q v σ
def TE (C : Cx) (e : Expr) (Q : V → St → Prop) (X : XP) (σ : St) : Prop := ∀ z₀, TT C z₀ (eval e C.env) (PVal Q) X σ

inductive Fl where
  | next | brk | cont
  | ret (v : V)
inductive RepF (z : Z) : Fl → Flow → Prop
  | next : RepF z .next .next
  | brk : RepF z .brk .brk
  | cont : RepF z .cont .cont
  | ret {v : V} {x : Value} (h : Rep z v x) : RepF z (.ret v) (.ret x)
def PFl (Q : Fl → St → Prop) : Z → Flow → St → Prop := fun z f σ => ∃ fl, RepF z fl f ∧ Q fl σ
def TS (C : Cx) (st : Stmt) (Q : Fl → St → Prop) (X : XP) (σ : St) : Prop := ∀ z₀, TT C z₀ (exec st C.env) (PFl Q) X σ
def TSs (C : Cx) (sts : List Stmt) (Q : Fl → St → Prop) (X : XP) (σ : St) : Prop := ∀ z₀, TT C z₀ (execs sts C.env) (PFl Q) X σ
/-- a test -/
def TB (C : Cx) (e : Expr) (Q : Bool → St → Prop) (X : XP) (σ : St) : Prop := ∀ z₀, TT C z₀ (isTrue e C.env (eval e C.env)) (fun _ b σ' => Q b σ') X σ

section
variable {C : Cx} {zs z : Z} {σ : St} {s : Shared}

theorem RH.grow {g : Gd} {H : Led} (r : RH g zs H z s) {h' : Heap} {t : Nat} (k : ∀ b o, s.heap.get? b = some o → h'.get? b = some o) : RH g zs H z { s with heap := h', toks := t } where
  hz b o e := k b o (r.hz b o e)
  hbase := r.hbase
  hzs b o e := let ⟨sl, q, w⟩ := r.hzs b o e; ⟨sl, k _ _ q, w⟩
  disj := r.disj
  hH p hp := let ⟨a, b⟩ := r.hH p hp; ⟨a.keep fun o ho => k _ _ ho, b⟩
  nodup := r.nodup
  gens := r.gens
  os := r.os
theorem R.grow (r : R C zs σ z s) {h' : Heap} {t : Nat} (k : ∀ b o, s.heap.get? b = some o → h'.get? b = some o) : R C zs σ z { s with heap := h', toks := t } where
  rh := r.rh.grow k
  ns := let ⟨m, a, b⟩ := r.ns; ⟨m, a.keeps k, b⟩
  cells x v h1 h2 := let ⟨c, val, a, b, d⟩ := r.cells x v h1 h2; ⟨c, val, a, b.keeps k, d⟩
  cellsOk p hp := let ⟨⟨ov, a⟩, b⟩ := r.cellsOk p hp; ⟨⟨ov, a.keeps k⟩, b⟩
  locFree := r.locFree
  fr := r.fr
theorem R.toks (r : R C zs σ z s) (t : Nat) : R C zs σ z { s with toks := t } := r.grow fun _ _ e => e
theorem R.push (r : R C zs σ z s) (o : Obj) (t : Nat) : R C zs σ z { s with heap := s.heap.push o, toks := t } := r.grow fun _ _ e => Heap.get?_push_of_some _ e
theorem R.push' (r : R C zs σ z s) (o : Obj) : R C zs σ z { s with heap := s.heap.push o } := r.push o s.toks

def Apart (C : Cx) (zs : Z) (σ : St) (a : Addr) : Prop := zs a = none ∧ a ≠ C.env.locals ∧ a ∉ σ.H.map (·.1) ∧ ∀ p ∈ C.env.cells, p.2 ≠ a

theorem RH.lt_z {g : Gd} {H : Led} (r : RH g zs H z s) {b : Addr} {o : Obj} (e : z b = some o) : b < s.heap.objs.size := Heap.lt_size (r.hz b o e)
theorem RH.fresh_z {g : Gd} {H : Led} (r : RH g zs H z s) {b : Addr} (e : s.heap.objs.size ≤ b) : z b = none := by
  cases h : z b with
  | none => rfl
  | some o => exact absurd (r.lt_z h) (Nat.not_lt.mpr e)
theorem RH.fresh_zs {g : Gd} {H : Led} (r : RH g zs H z s) {b : Addr} (e : s.heap.objs.size ≤ b) : zs b = none := by
  cases h : zs b with
  | none => rfl
  | some o => obtain ⟨sl, q, _⟩ := r.hzs _ _ h; exact absurd (Heap.lt_size q) (Nat.not_lt.mpr e)
theorem AOK.lt {g : Gd} {h : Heap} {a : Addr} : ∀ {o : AO}, AOK g z h a o → a < h.objs.size
  | .list _, ⟨_, _, ho, _⟩ => Heap.lt_size ho
  | .dictS _, ⟨_, _, ⟨_, _, ho, _⟩, _⟩ => Heap.lt_size ho
  | .dictI _, ⟨_, _, ⟨_, _, ho, _⟩, _⟩ => Heap.lt_size ho
theorem RH.fresh_H {g : Gd} {H : Led} (r : RH g zs H z s) {b : Addr} (e : s.heap.objs.size ≤ b) : b ∉ H.map (·.1) := by
  intro hb
  obtain ⟨p, hp, rfl⟩ := List.mem_map.mp hb
  exact absurd (r.hH p hp).1.lt (Nat.not_lt.mpr e)
theorem R.apart_new (r : R C zs σ z s) {a : Addr} (h : s.heap.objs.size ≤ a) : Apart C zs σ a := by
  refine ⟨r.rh.fresh_zs h, ?_, r.rh.fresh_H h, ?_⟩
  · intro e
    obtain ⟨m, n, _⟩ := r.ns
    exact absurd n.lt (Nat.not_lt.mpr (e ▸ h))
  · intro p hp e
    obtain ⟨⟨ov, c⟩, _⟩ := r.cellsOk p hp
    exact absurd c.lt (Nat.not_lt.mpr (e ▸ h))

theorem Z.le_put {g : Gd} {H : Led} (r : RH g zs H z s) {a : Addr} {o : Obj} (e : s.heap.get? a = some o) : Z.le z (z.put a o) := by
  intro b o' hb
  unfold Z.put
  by_cases h : b = a
  · subst h; rw [if_pos rfl]; rw [r.hz _ _ hb] at e; exact e.symm
  · rw [if_neg h]; exact hb
theorem put_ne {a b : Addr} {o : Obj} (h : b ≠ a) (e : z b = none) : z.put a o b = none := by unfold Z.put; rw [if_neg h]; exact e
theorem put_self {a : Addr} {o : Obj} : z.put a o a = some o := if_pos rfl

theorem RH.freeze {g : Gd} {H : Led} (r : RH g zs H z s) {a : Addr} {o : Obj} (e : s.heap.get? a = some o) (h1 : zs a = none) (h2 : a ∉ H.map (·.1)) : RH g zs H (z.put a o) s where
  hz b o' h := by
    unfold Z.put at h
    by_cases hb : b = a
    · subst hb; rw [if_pos rfl] at h; cases h; exact e
    · rw [if_neg hb] at h; exact r.hz b o' h
  hbase b o' h := Z.le_put r e _ _ (r.hbase b o' h)
  hzs := r.hzs
  disj b o' h := put_ne (fun q => by subst q; rw [h1] at h; cases h) (r.disj b o' h)
  hH p hp := by
    obtain ⟨x, y, w⟩ := r.hH p hp
    refine ⟨x.mono (Z.le_put r e), put_ne (fun q => h2 ?_) y, w⟩
    rw [← q]; exact List.mem_map_of_mem hp
  nodup := r.nodup
  gens := r.gens
  os := r.os
theorem R.freeze (r : R C zs σ z s) {a : Addr} {o : Obj} (e : s.heap.get? a = some o) (q : Apart C zs σ a) : R C zs σ (z.put a o) s where
  rh := r.rh.freeze e q.1 q.2.2.1
  ns := let ⟨m, x, y⟩ := r.ns; ⟨m, x, fun n v h1 h2 => let ⟨val, u, w⟩ := y n v h1 h2; ⟨val, u, w.mono (Z.le_put r.rh e)⟩⟩
  cells x v h1 h2 := let ⟨c, val, u, w, t⟩ := r.cells x v h1 h2; ⟨c, val, u, w, t.mono (Z.le_put r.rh e)⟩
  cellsOk p hp := let ⟨u, w, t⟩ := r.cellsOk p hp; ⟨u, put_ne (q.2.2.2 p hp) w, t⟩
  locFree := ⟨put_ne (Ne.symm q.2.1) r.locFree.1, r.locFree.2⟩
  fr := r.fr

/-- a new object goes into the frozen part -/
theorem R.frozen (r : R C zs σ z s) (o : Obj) (t : Nat) (hf : o.isFreed = false := by rfl) :
    R C zs σ (z.put s.heap.objs.size o) { s with heap := s.heap.push o, toks := t } ∧ Z.le z (z.put s.heap.objs.size o) :=
  have e : ({ s with heap := s.heap.push o, toks := t } : Shared).heap.get? s.heap.objs.size = some o := Heap.get?_push_size _ hf
  have r' := r.push o t
  ⟨r'.freeze e (r.apart_new (Nat.le_refl _)), Z.le_put r'.rh e⟩

/-- a new object goes onto the ledger -/
theorem RH.ledger {g : Gd} {H : Led} (r : RH g zs H z s) {a : Addr} {o : AO} (h : AOK g z s.heap a o) (h0 : z a = none) (h1 : zs a = none) (h2 : a ∉ H.map (·.1)) : RH g zs ((a, o) :: H) z s where
  hz := r.hz
  hbase := r.hbase
  hzs := r.hzs
  disj := r.disj
  hH p hp := by
    rcases List.mem_cons.mp hp with e | hp
    · subst e; exact ⟨h, h0, h1⟩
    · exact r.hH p hp
  nodup := by rw [List.map_cons]; exact List.nodup_cons.mpr ⟨h2, r.nodup⟩
  gens := r.gens
  os := r.os
theorem R.ledger (r : R C zs σ z s) {a : Addr} {o : AO} (h : AOK C.g z s.heap a o) (h0 : z a = none) (q : Apart C zs σ a) : R C zs ⟨σ.loc, (a, o) :: σ.H⟩ z s where
  rh := r.rh.ledger h h0 q.1 q.2.2.1
  ns := r.ns
  cells := r.cells
  cellsOk p hp := let ⟨u, w, t, v, y⟩ := r.cellsOk p hp; ⟨u, w, t, v, by
    rw [List.map_cons, List.mem_cons]; exact fun e => e.elim (q.2.2.2 p hp) y⟩
  locFree := ⟨r.locFree.1, r.locFree.2.1, by
    rw [List.map_cons, List.mem_cons]; exact fun e => e.elim (fun e => q.2.1 e.symm) r.locFree.2.2⟩
  fr := r.fr

inductive Upd (a : Addr) (o o' : AO) : Led → Led → Prop
  | head {t : Led} : Upd a o o' ((a, o) :: t) ((a, o') :: t)
  | tail {p : Addr × AO} {t t' : Led} (h : Upd a o o' t t') : Upd a o o' (p :: t) (p :: t')
theorem Upd.keys {a : Addr} {o o' : AO} {H H' : Led} (u : Upd a o o' H H') : H'.map (·.1) = H.map (·.1) := by
  induction u with
  | head => rfl
  | tail _ ih => simp [ih]
theorem Upd.mem {a : Addr} {o o' : AO} {H H' : Led} (u : Upd a o o' H H') : (a, o) ∈ H := by
  induction u with
  | head => exact List.mem_cons_self
  | tail _ ih => exact List.mem_cons_of_mem _ ih
theorem Upd.of_mem {a : Addr} {o o' : AO} {H H' : Led} (u : Upd a o o' H H') (hn : (H.map (·.1)).Nodup) : ∀ p ∈ H', p = (a, o') ∨ (p ∈ H ∧ p.1 ≠ a) := by
  induction u with
  | head =>
    intro p hp
    rw [List.map_cons, List.nodup_cons] at hn
    rcases List.mem_cons.mp hp with e | hp
    · exact .inl e
    · exact .inr ⟨List.mem_cons_of_mem _ hp, fun e => hn.1 (e ▸ List.mem_map_of_mem (f := (·.1)) hp)⟩
  | tail u' ih =>
    intro p hp
    rw [List.map_cons, List.nodup_cons] at hn
    rcases List.mem_cons.mp hp with e | hp
    · subst e
      exact .inr ⟨List.mem_cons_self, fun e => hn.1 (e ▸ List.mem_map_of_mem (f := (·.1)) u'.mem)⟩
    · exact (ih hn.2 p hp).imp id fun ⟨x, y⟩ => ⟨List.mem_cons_of_mem _ x, y⟩

theorem RH.upd {g : Gd} {H H' : Led} (r : RH g zs H z s) {a : Addr} {o o' : AO} (u : Upd a o o' H H') {h' : Heap} {t : Nat} (hs : Heap.SameBut a s.heap h') (k : AOK g z h' a o') :
    RH g zs H' z { s with heap := h', toks := t } where
  hz b o e := (hs.2 b fun q => by have := (r.hH _ u.mem).2.1; subst q; rw [this] at e; cases e).trans (r.hz b o e)
  hbase := r.hbase
  hzs b o e := let ⟨sl, q, w⟩ := r.hzs b o e; ⟨sl, (hs.2 b fun q => by have := (r.hH _ u.mem).2.2; subst q; rw [this] at e; cases e).trans q, w⟩
  disj := r.disj
  hH p hp := by
    rcases u.of_mem r.nodup p hp with e | ⟨hm, hn⟩
    · subst e; exact ⟨k, (r.hH _ u.mem).2⟩
    · obtain ⟨x, y⟩ := r.hH p hm
      exact ⟨x.keep fun o ho => (hs.2 _ hn).trans ho, y⟩
  nodup := by rw [u.keys]; exact r.nodup
  gens := r.gens
  os := r.os
theorem R.upd {H' : Led} (r : R C zs σ z s) {a : Addr} {o o' : AO} (u : Upd a o o' σ.H H') {h' : Heap} {t : Nat} (hs : Heap.SameBut a s.heap h') (k : AOK C.g z h' a o') :
    R C zs ⟨σ.loc, H'⟩ z { s with heap := h', toks := t } where
  rh := r.rh.upd u hs k
  ns := let ⟨m, x, y⟩ := r.ns; ⟨m, x.sameBut hs fun e => r.locFree.2.2 (e ▸ List.mem_map_of_mem (f := (·.1)) u.mem), y⟩
  cells x v h1 h2 := let ⟨c, val, p, q, w⟩ := r.cells x v h1 h2
    ⟨c, val, p, q.sameBut hs fun e => (r.cellsOk (x, c) (mem_of_lookup p)).2.2.2.2 (e ▸ List.mem_map_of_mem (f := (·.1)) u.mem), w⟩
  cellsOk p hp := let ⟨⟨ov, x⟩, y, w, q, n⟩ := r.cellsOk p hp
    ⟨⟨ov, x.sameBut hs fun e => n (e ▸ List.mem_map_of_mem (f := (·.1)) u.mem)⟩, y, w, q, by show p.2 ∉ H'.map (·.1); rw [u.keys]; exact n⟩
  locFree := ⟨r.locFree.1, r.locFree.2.1, by show _ ∉ H'.map (·.1); rw [u.keys]; exact r.locFree.2.2⟩
  fr := r.fr

/-- less is known -/
theorem R.weaken {σ' : St} (r : R C zs σ z s) (h1 : ∀ x v, σ'.loc.lookup x = some v → σ.loc.lookup x = some v) (h2 : σ'.H.Sublist σ.H) : R C zs σ' z s where
  rh := { r.rh with hH := fun p hp => r.rh.hH p (h2.subset hp), nodup := r.rh.nodup.sublist (h2.map _) }
  ns := let ⟨m, x, y⟩ := r.ns; ⟨m, x, fun n v a b => y n v (h1 n v a) b⟩
  cells x v a b := r.cells x v (h1 x v a) b
  cellsOk p hp := let ⟨a, b, c, d, e⟩ := r.cellsOk p hp; ⟨a, b, c, d, fun q => e ((h2.map _).subset q)⟩
  locFree := ⟨r.locFree.1, r.locFree.2.1, fun q => r.locFree.2.2 ((h2.map _).subset q)⟩
  fr := r.fr
end

theorem TT.weaken {α : Type} {C : Cx} {z₀ : Z} {t : Sem α} {P : Z → α → St → Prop} {X : XP} {σ σ' : St} (h1 : ∀ x v, σ'.loc.lookup x = some v → σ.loc.lookup x = some v) (h2 : σ'.H.Sublist σ.H)
    (h : TT C z₀ t P X σ') : TT C z₀ t P X σ := fun zs z s hz hR => h zs z s hz (hR.weaken h1 h2)
end PL

end
section
open PySem PySem.Calls PyProof.Rows
set_option Elab.async false
set_option linter.unusedVariables false
set_option linter.unusedSimpArgs false
namespace PL

def setL : List (Str × V) → Str → V → List (Str × V)
  | [], x, v => [(x, v)]
  | (y, w) :: r, x, v => if x == y then (y, v) :: r else (y, w) :: setL r x v
theorem lookup_setL (x : Str) (v : V) (y : Str) : ∀ l : List (Str × V), (setL l x v).lookup y = if y = x then some v else l.lookup y
  | [] => by
    by_cases h : y = x
    · subst h; simp [setL, List.lookup]
    · have : (y == x) = false := beq_eq_false_iff_ne.mpr h
      simp [setL, List.lookup, this, h]
  | (k, w) :: r => by
    unfold setL
    by_cases hk : x = k
    · subst hk
      rw [if_pos (by simp)]
      by_cases h : y = x
      · subst h; simp [List.lookup]
      · have : (y == x) = false := beq_eq_false_iff_ne.mpr h
        simp [List.lookup, this, h]
    · rw [if_neg (by simpa using hk)]
      by_cases h : y = k
      · subst h
        have hyx : ¬ y = x := fun e => hk e.symm
        simp [List.lookup, hyx]
      · have : (y == k) = false := beq_eq_false_iff_ne.mpr h
        rw [List.lookup_cons, this]
        simp only
        rw [lookup_setL x v y r, List.lookup_cons, this]

section
variable {C : Cx} {X : XP} {σ : St} {zs z z₀ : Z} {s : Shared}

theorem RH.base {g : Gd} {H : Led} (r : RH g zs H z s) : ∀ b o, g.base.get? b = some o → s.heap.get? b = some o := fun b o e => r.hz b o (r.hbase b o e)

/-- a value handed on with no change of the state but the tokens -/
theorem PVal.toks {Q : V → St → Prop} (hR : R C zs σ z s) {v : V} {x : Value} {t : Nat} (r : Rep z v x) (h : Q v σ) :
    ∃ z' σ', Z.le z z' ∧ R C zs σ' z' { s with toks := t } ∧ PVal Q z' x σ' := ⟨z, σ, Z.le_refl _, hR.toks t, v, r, h⟩
theorem PVal.same {Q : V → St → Prop} (hR : R C zs σ z s) {v : V} {x : Value} (r : Rep z v x) (h : Q v σ) :
    ∃ z' σ', Z.le z z' ∧ R C zs σ' z' s ∧ PVal Q z' x σ' := ⟨z, σ, Z.le_refl _, hR, v, r, h⟩

theorem TE.name_local {x : Str} {p : Pos} {v : V} {Q : V → St → Prop} (hl : C.env.kindOf x = some .local) (hv : σ.loc.lookup x = some v) (h : Q v σ) (hd : (x == ("__debug__" : Str)) = false := by decide) :
    TE C (.Name x p) Q X σ := by
  intro z₀ zs z s hz hR
  obtain ⟨m, hn, hm⟩ := hR.ns
  obtain ⟨val, e, r⟩ := hm x v hv hl
  exact wpAny_Name (wpAny_loadName_local C.hk hl hn e (PVal.same hR r h)) hd
theorem TE.name_cell {x : Str} {p : Pos} {v : V} {Q : V → St → Prop} (hl : C.env.kindOf x = some .cell) (hv : σ.loc.lookup x = some v) (h : Q v σ) (hd : (x == ("__debug__" : Str)) = false := by decide) :
    TE C (.Name x p) Q X σ := by
  intro z₀ zs z s hz hR
  obtain ⟨c, val, e, hc, r⟩ := hR.cells x v hv (by rw [hl]; rfl)
  exact wpAny_Name (wpAny_loadName_cell C.hk hl e hc (PVal.same hR r h)) hd
theorem TE.name_glob {x : Str} {p : Pos} {v : Value} {Q : V → St → Prop} (hl : C.env.kindOf x = some .globalImplicit) (hv : C.g.mg x = some v) (h : Q (.con v) σ) (hd : (x == ("__debug__" : Str)) = false := by decide) :
    TE C (.Name x p) Q X σ := by
  intro z₀ zs z s hz hR
  refine Name_function_global C.hk hl (loadGlobal_global (mg := C.g.mg) ?_ hv (PVal.same hR (.con v) h)) hd
  rw [C.hglob]; exact C.g.hmg.keeps hR.rh.base
theorem TE.name_builtin {x : Str} {p : Pos} {v : Value} {Q : V → St → Prop} (hl : C.env.kindOf x = some .globalImplicit) (hm : C.g.mg x = none) (hv : bootBuiltins x = some v) (h : Q (.con v) σ)
    (hd : (x == ("__debug__" : Str)) = false := by decide) (hn : x ≠ "__name__" := by decide) : TE C (.Name x p) Q X σ := by
  intro z₀ zs z s hz hR
  refine Name_function_global C.hk hl (loadGlobal_builtin (mg := C.g.mg) (mb := C.g.mb) ?_ hm ?_ ((C.g.hbi x hn).trans hv) (PVal.same hR (.con v) h)) hd
  · rw [C.hglob]; exact C.g.hmg.keeps hR.rh.base
  · rw [C.hbuilt]; exact C.g.hmb.keeps hR.rh.base

theorem TE.const_int {i : Int} {k : Nat} {p : Pos} {Q : V → St → Prop} (h : Q (.int i) σ) : TE C (.Constant (.int i) k p) Q X σ :=
  fun z₀ zs z s hz hR => wpAny_Constant_int (PVal.toks hR (.int i _) h)
theorem TE.const_bool {b : Bool} {k : Nat} {p : Pos} {Q : V → St → Prop} (h : Q (.bool b) σ) : TE C (.Constant (.bool b) k p) Q X σ :=
  fun z₀ zs z s hz hR => wpAny_Constant_bool (PVal.same hR (.bool b) h)
theorem rep_str (x : Str) (t : Tok) : Rep z (.txt false x.cps.toList) (.str x t) := by
  have : x = ⟨x.cps.toList.toArray⟩ := by simp
  conv => rhs; rw [this]
  exact .str _ t
theorem TE.const_str {x : Str} {k : Nat} {p : Pos} {Q : V → St → Prop} (h : Q (.txt false x.cps.toList) σ) : TE C (.Constant (.str x) k p) Q X σ :=
  fun z₀ zs z s hz hR => wpAny_Constant_str (PVal.toks hR (rep_str x _) h)
theorem rep_bytes (b : List UInt8) (t : Tok) : Rep z (.txt true (b.map UInt8.toNat)) (.bytes b.toArray t) := by
  have : b = (b.map UInt8.toNat).map UInt8.ofNat := by simp [List.map_map, Function.comp_def]
  conv => rhs; rw [this]
  exact .bytes _ t (fun c hc => by
    obtain ⟨d, _, rfl⟩ := List.mem_map.mp hc
    exact UInt8.toNat_lt d)
theorem TE.const_bytes {b : List UInt8} {k : Nat} {p : Pos} {Q : V → St → Prop} (h : Q (.txt true (b.map UInt8.toNat)) σ) : TE C (.Constant (.bytes b) k p) Q X σ :=
  fun z₀ zs z s hz hR => wpAny_mkTextBytes (PVal.toks hR (rep_bytes b _) h)

/-! operators -/
def Bin (C : Cx) (op : Operator) (a b : V) (Q : V → St → Prop) (X : XP) (σ : St) : Prop := ∀ z₀ x y, Rep z₀ a x → Rep z₀ b y → TT C z₀ (binaryOp op x y) (PVal Q) X σ
def Inp (C : Cx) (op : Operator) (a b : V) (Q : V → St → Prop) (X : XP) (σ : St) : Prop := ∀ z₀ x y, Rep z₀ a x → Rep z₀ b y → TT C z₀ (inplaceOp op x y) (PVal Q) X σ
def Cmp (C : Cx) (op : CmpOp) (a b : V) (Q : V → St → Prop) (X : XP) (σ : St) : Prop := ∀ z₀ x y, Rep z₀ a x → Rep z₀ b y → TT C z₀ (compareOp op x y) (PVal Q) X σ
def Tru (C : Cx) (a : V) (Q : Bool → St → Prop) (X : XP) (σ : St) : Prop := ∀ z₀ x, Rep z₀ a x → TT C z₀ (truthy x) (fun _ b σ' => Q b σ') X σ

theorem TE.binop {l r : Expr} {op : Operator} {p : Pos} {Q : V → St → Prop} (h : TE C l (fun a σ1 => TE C r (fun b σ2 => Bin C op a b Q X σ2) X σ1) X σ) : TE C (.BinOp l op r p) Q X σ := by
  intro z₀
  rw [eval_BinOp]
  refine TT.bind (TT.mono (h z₀) ?_)
  rintro z a σ1 l1 ⟨va, ra, h1⟩
  refine TT.bind (TT.holding (TT.mono (h1 z) ?_))
  rintro z' b σ2 l2 ⟨vb, rb, h2⟩
  exact TT.at_ (TT.operate (h2 z' a b (ra.mono l2) rb))
theorem TE.cmp {l r : Expr} {op : CmpOp} {p : Pos} {Q : V → St → Prop} (h : TE C l (fun a σ1 => TE C r (fun b σ2 => Cmp C op a b Q X σ2) X σ1) X σ) (hm : behindInMarks op r = false := by with_unfolding_all rfl) :
    TE C (.Compare l [op] [r] p) Q X σ := by
  intro z₀
  rw [eval_Compare1, markedBehindIn_of_false hm]
  refine TT.bind (TT.mono (h z₀) ?_)
  rintro z a σ1 l1 ⟨va, ra, h1⟩
  refine TT.bind (TT.holding (TT.mono (h1 z) ?_))
  rintro z' b σ2 l2 ⟨vb, rb, h2⟩
  exact TT.at_ (TT.operate (h2 z' a b (ra.mono l2) rb))
theorem TB.cmp {l r : Expr} {op : CmpOp} {p : Pos} {Q : Bool → St → Prop} (h : TE C l (fun a σ1 => TE C r (fun b σ2 => Cmp C op a b (fun v σ3 => ∃ b, v = .bool b ∧ Q b σ3) X σ2) X σ1) X σ) (hm : behindInMarks op r = false := by with_unfolding_all rfl) :
    TB C (.Compare l [op] [r] p) Q X σ := by
  intro z₀
  rw [isTrue_Compare1, markedBehindIn_of_false hm]
  refine TT.bind (TT.mono (h z₀) ?_)
  rintro z a σ1 l1 ⟨va, ra, h1⟩
  refine TT.bind (TT.holding (TT.mono (h1 z) ?_))
  rintro z' b σ2 l2 ⟨vb, rb, h2⟩
  refine TT.at_ (TT.bind (TT.operate (TT.mono (h2 z' a b (ra.mono l2) rb) ?_)))
  rintro z'' c σ3 l3 ⟨vc, rc, b, rfl, h3⟩
  cases rc
  refine TT.holding (TT.eq (a := b) rfl fun _ _ => h3)
theorem TB.val {e : Expr} {Q : Bool → St → Prop} (h : TE C e (fun v σ1 => Tru C v Q X σ1) X σ) (he : isTrue e C.env (eval e C.env) = (do let v ← eval e C.env; standAt e.pos; holding [v] (truthy v)) := by rfl) : TB C e Q X σ := by
  intro z₀
  rw [he]
  refine TT.bind (TT.mono (h z₀) ?_)
  rintro z a σ1 l1 ⟨va, ra, h1⟩
  exact TT.at_ (TT.holding (h1 z a ra))
def TBall (C : Cx) (op : BoolOp) (es : List Expr) (Q : Bool → St → Prop) (X : XP) (σ : St) : Prop := ∀ z₀, TT C z₀ (allTrue op es C.env) (fun _ b σ' => Q b σ') X σ
theorem TB.boolop {op : BoolOp} {es : List Expr} {p : Pos} {Q : Bool → St → Prop} (h : TBall C op es Q X σ) : TB C (.BoolOp op es p) Q X σ := by
  intro z₀; rw [arm_isTrue_BoolOp]; exact h z₀
theorem TBall.and_nil {Q : Bool → St → Prop} (h : Q true σ) : TBall C .And [] Q X σ := fun z₀ => TT.pure fun _ _ => h
theorem TBall.or_nil {Q : Bool → St → Prop} (h : Q false σ) : TBall C .Or [] Q X σ := fun z₀ => TT.pure fun _ _ => h
theorem TBall.and_cons {x : Expr} {rest : List Expr} {Q : Bool → St → Prop} (h : TB C x (fun b σ1 => if b then TBall C .And rest Q X σ1 else Q false σ1) X σ) : TBall C .And (x :: rest) Q X σ := by
  intro z₀
  show TT C z₀ (do match BoolOp.And, ← isTrue x C.env (eval x C.env) with | .And, false => pure false | .Or, true => pure true | _, _ => allTrue .And rest C.env) _ X σ
  refine TT.bind (TT.mono (h z₀) ?_)
  rintro z b σ1 l1 h1
  cases b
  · exact TT.pure fun _ _ => h1
  · exact h1 z
theorem TBall.or_cons {x : Expr} {rest : List Expr} {Q : Bool → St → Prop} (h : TB C x (fun b σ1 => if b then Q true σ1 else TBall C .Or rest Q X σ1) X σ) : TBall C .Or (x :: rest) Q X σ := by
  intro z₀
  show TT C z₀ (do match BoolOp.Or, ← isTrue x C.env (eval x C.env) with | .And, false => pure false | .Or, true => pure true | _, _ => allTrue .Or rest C.env) _ X σ
  refine TT.bind (TT.mono (h z₀) ?_)
  rintro z b σ1 l1 h1
  cases b
  · exact h1 z
  · exact TT.pure fun _ _ => h1
theorem TE.ifexp {t b o : Expr} {p : Pos} {Q : V → St → Prop} (h : TB C t (fun c σ1 => if c then TE C b Q X σ1 else TE C o Q X σ1) X σ) : TE C (.IfExp t b o p) Q X σ := by
  intro z₀
  rw [arm_eval_IfExp]
  refine TT.bind (TT.mono (h z₀) ?_)
  rintro z c σ1 l1 h1
  cases c
  · exact h1 z
  · exact h1 z
/-! displays and arguments -/
def TArgs (C : Cx) (es : List Expr) (Q : List V → St → Prop) (X : XP) (σ : St) : Prop := ∀ pos z₀, TT C z₀ (spliced (backTo pos (starEach es C.env))) (fun z xs σ' => ∃ vs, RepL z vs xs ∧ Q vs σ') X σ
theorem TArgs.nil {Q : List V → St → Prop} (h : Q [] σ) : TArgs C [] Q X σ := fun pos z₀ => TT.pure fun z _ => ⟨[], .nil, h⟩
theorem TArgs.cons {e : Expr} {r : List Expr} {Q : List V → St → Prop} (h : TE C e (fun v σ1 => TArgs C r (fun vs σ2 => Q (v :: vs) σ2) X σ1) X σ)
    (he : starEach (e :: r) C.env = (false, eval e C.env) :: starEach r C.env := by rfl) : TArgs C (e :: r) Q X σ := by
  intro pos z₀
  rw [he]
  show TT C z₀ (do
    let v ← eval e C.env
    let here ← (pure [v] : Sem (List Value))
    return here ++ (← holding here (spliced (backTo pos (starEach r C.env))))) _ X σ
  refine TT.bind (TT.mono (h z₀) ?_)
  rintro z a σ1 l1 ⟨va, ra, h1⟩
  refine TT.bind (TT.pure fun z1 l2 => TT.bind (TT.holding (TT.mono (h1 pos z1) ?_)))
  rintro z2 xs σ2 l3 ⟨vs, rs, h2⟩
  exact TT.pure fun z3 l4 => ⟨va :: vs, .cons (((ra.mono l2).mono l3).mono l4) (rs.mono l4), h2⟩

theorem size_ok {n : Nat} (h : n ≤ 16777216) : n ≤ sizeLine := by rw [sizeLine_eq]; exact h

/-- a new tuple of known values -/
theorem TT.newTuple {vs : List V} {xs : List Value} {Q : V → St → Prop} (r : RepL z₀ vs xs) (hn : vs.length ≤ 16777216) (h : Q (.tup vs) σ) : TT C z₀ (PySem.newTuple xs) (PVal Q) X σ := by
  intro zs z s hz hR
  refine wpAny_newTuple ?_ (by rw [r.length]; exact size_ok hn)
  obtain ⟨R', l⟩ := hR.frozen { cls := .type "tuple", data := .seq xs.toArray } s.toks
  exact ⟨_, _, l, R', _, .tup put_self ((r.mono hz).mono l), h⟩
/-- a new list, frozen -/
theorem TT.newListF {vs : List V} {xs : List Value} {Q : V → St → Prop} (r : RepL z₀ vs xs) (hn : vs.length ≤ 16777216) (h : Q (.lst vs) σ) : TT C z₀ (PySem.newList xs) (PVal Q) X σ := by
  intro zs z s hz hR
  refine wpAny_newList ?_ (by rw [r.length]; exact size_ok hn)
  obtain ⟨R', l⟩ := hR.frozen { cls := .type "list", data := .seq xs.toArray } s.toks
  exact ⟨_, _, l, R', _, .lst put_self ((r.mono hz).mono l), h⟩
theorem TE.tuple {es : List Expr} {k : Nat} {p : Pos} {Q : V → St → Prop} (h : TArgs C es (fun vs σ1 => vs.length ≤ 16777216 ∧ Q (.tup vs) σ1) X σ) : TE C (.Tuple es k p) Q X σ := by
  intro z₀
  rw [arm_eval_Tuple]
  refine TT.at_ (TT.bind (TT.mono (h p z₀) ?_))
  rintro z xs σ1 l ⟨vs, r, hn, hq⟩
  exact TT.newTuple r hn hq
theorem TE.listF {es : List Expr} {p : Pos} {Q : V → St → Prop} (h : TArgs C es (fun vs σ1 => vs.length ≤ 16777216 ∧ Q (.lst vs) σ1) X σ) : TE C (.List es p) Q X σ := by
  intro z₀
  rw [arm_eval_List]
  refine TT.at_ (TT.bind (TT.mono (h p z₀) ?_))
  rintro z xs σ1 l ⟨vs, r, hn, hq⟩
  exact TT.newListF r hn hq
end

/-! storing -/
section
variable {C : Cx} {X : XP} {σ : St} {zs z z₀ : Z} {s : Shared}

theorem R.storeL (hR : R C zs σ z s) {x : Str} {v : V} {val : Value} {h' : Heap} {t : Nat} {m : Str → Option Value} (hm : ∀ y u, σ.loc.lookup y = some u → C.env.kindOf y = some .local → ∃ w, m y = some w ∧ Rep z u w) (hl : C.env.kindOf x = some .local) (r : Rep z v val)
    (hn : h'.Ns C.env.locals (fun y => if y = x then some val else m y)) (hs : Heap.SameBut C.env.locals s.heap h') :
    R C zs ⟨setL σ.loc x v, σ.H⟩ z { s with heap := h', toks := t } := by
  have ne : ∀ b o, z b = some o → b ≠ C.env.locals := fun b o e q => by rw [q, hR.locFree.1] at e; cases e
  have nes : ∀ b o, zs b = some o → b ≠ C.env.locals := fun b o e q => by rw [q, hR.locFree.2.1] at e; cases e
  refine ⟨⟨fun b o e => (hs.2 b (ne b o e)).trans (hR.rh.hz b o e), hR.rh.hbase, fun b o e => ?_, hR.rh.disj, fun p hp => ?_, hR.rh.nodup, hR.rh.gens, hR.rh.os⟩, ⟨_, hn, fun y u hy hk => ?_⟩, fun y u hy hk => ?_, fun p hp => ?_, hR.locFree, hR.fr⟩
  · obtain ⟨sl, q, w⟩ := hR.rh.hzs b o e
    exact ⟨sl, (hs.2 b (nes b o e)).trans q, w⟩
  · obtain ⟨a, b⟩ := hR.rh.hH p hp
    exact ⟨a.keep fun o ho => (hs.2 _ fun q => hR.locFree.2.2 (q ▸ List.mem_map_of_mem (f := (·.1)) hp)).trans ho, b⟩
  · rw [lookup_setL] at hy
    by_cases h : y = x
    · subst h; rw [if_pos rfl] at hy; cases hy; exact ⟨val, by simp, r⟩
    · rw [if_neg h] at hy
      obtain ⟨w, q, r'⟩ := hm y u hy hk
      exact ⟨w, by simp [h, q], r'⟩
  · rw [lookup_setL] at hy
    by_cases h : y = x
    · subst h; rw [hl] at hk; cases hk
    · rw [if_neg h] at hy
      obtain ⟨c, w, a, b, d⟩ := hR.cells y u hy hk
      exact ⟨c, w, a, b.sameBut hs (hR.cellsOk (y, c) (mem_of_lookup a)).2.2.2.1, d⟩
  · obtain ⟨⟨ov, a⟩, b1, b2, b3, b4⟩ := hR.cellsOk p hp
    exact ⟨⟨ov, a.sameBut hs b3⟩, b1, b2, b3, b4⟩

theorem R.storeC (hR : R C zs σ z s) {x : Str} {v : V} {val : Value} {c : Addr} {h' : Heap} (hl : C.env.kindOf x = some .cell) (hc : C.env.cells.lookup x = some c) (hro : x ∉ C.ro) (r : Rep z v val)
    (hn : h'.IsCell c (some val)) (hs : Heap.SameBut c s.heap h') : R C zs ⟨setL σ.loc x v, σ.H⟩ z { s with heap := h' } := by
  obtain ⟨⟨ov, hcell⟩, k1, k2, k3, k4⟩ := hR.cellsOk (x, c) (mem_of_lookup hc)
  have k2 := k2.resolve_right hro
  have ne : ∀ b o, z b = some o → b ≠ c := fun b o e q => by subst q; rw [k1] at e; cases e
  have nes : ∀ b o, zs b = some o → b ≠ c := fun b o e q => by subst q; rw [k2] at e; cases e
  refine ⟨⟨fun b o e => (hs.2 b (ne b o e)).trans (hR.rh.hz b o e), hR.rh.hbase, fun b o e => ?_, hR.rh.disj, fun p hp => ?_, hR.rh.nodup, hR.rh.gens, hR.rh.os⟩, ?_, fun y u hy hk => ?_, fun p hp => ?_, hR.locFree, hR.fr⟩
  · obtain ⟨sl, q, w⟩ := hR.rh.hzs b o e
    exact ⟨sl, (hs.2 b (nes b o e)).trans q, w⟩
  · obtain ⟨a, b⟩ := hR.rh.hH p hp
    exact ⟨a.keep fun o ho => (hs.2 _ fun q => k4 (q ▸ List.mem_map_of_mem (f := (·.1)) hp)).trans ho, b⟩
  · obtain ⟨m, n, hm⟩ := hR.ns
    refine ⟨m, n.sameBut hs (Ne.symm k3), fun y u hy hk => ?_⟩
    rw [lookup_setL] at hy
    by_cases h : y = x
    · subst h; rw [hl] at hk; cases hk
    · rw [if_neg h] at hy; exact hm y u hy hk
  · rw [lookup_setL] at hy
    by_cases h : y = x
    · subst h; rw [if_pos rfl] at hy; cases hy; exact ⟨c, val, hc, hn, r⟩
    · rw [if_neg h] at hy
      obtain ⟨c', w, a, b, d⟩ := hR.cells y u hy hk
      refine ⟨c', w, a, b.sameBut hs fun e => h ?_, d⟩
      subst e
      exact name_of_addr C.apart (mem_of_lookup a) (mem_of_lookup hc)
  · obtain ⟨⟨ov', a⟩, b1, b2, b3, b4⟩ := hR.cellsOk p hp
    by_cases e : p.2 = c
    · exact ⟨⟨_, by rw [e]; exact hn⟩, b1, b2, b3, b4⟩
    · exact ⟨⟨ov', a.sameBut hs e⟩, b1, b2, b3, b4⟩

/-- a name that can be stored: a local one, or a cell's -/
inductive Stores (C : Cx) (x : Str) : Prop
  | loc (h : C.env.kindOf x = some .local)
  | cell (c : Addr) (h : C.env.kindOf x = some .cell) (hc : C.env.cells.lookup x = some c) (hro : x ∉ C.ro)

theorem TT.store {x : Str} {v : V} {val : Value} {P : Z → Unit → St → Prop} (k : Stores C x) (r : Rep z₀ v val) (h : ∀ z, Z.le z₀ z → P z () ⟨setL σ.loc x v, σ.H⟩) : TT C z₀ (bindName C.env x val) P X σ := by
  intro zs z s hz hR
  refine wpAny_bindName ?_
  cases k with
  | loc hl =>
    obtain ⟨m, hn, hm⟩ := hR.ns
    refine wpAny_storeName_local hl hn (fun h' hn' hs' => ⟨z, _, Z.le_refl _, hR.storeL hm hl (r.mono hz) hn' hs', h z hz⟩) ?_
    rw [C.hk]; rfl
  | cell c hl hc hro =>
    obtain ⟨⟨ov, hcell⟩, _⟩ := hR.cellsOk (x, c) (mem_of_lookup hc)
    exact wpAny_storeName_cell C.hk hl hc hcell fun h' hn' hs' => ⟨z, _, Z.le_refl _, hR.storeC hl hc hro (r.mono hz) hn' hs', h z hz⟩

/-! statements -/
theorem TSs.nil {Q : Fl → St → Prop} (h : Q .next σ) : TSs C [] Q X σ := fun z₀ => TT.pure fun z _ => ⟨.next, .next, h⟩
theorem TSs.cons {st : Stmt} {r : List Stmt} {Q : Fl → St → Prop} (h : TS C st (fun f σ1 => match f with | .next => TSs C r Q X σ1 | f => Q f σ1) X σ) : TSs C (st :: r) Q X σ := by
  intro z₀
  rw [execs_cons]
  refine TT.bind (TT.mono (h z₀) ?_)
  rintro z f σ1 l ⟨fl, rf, h1⟩
  cases rf with
  | next => exact h1 z
  | brk => exact TT.pure fun z' l' => ⟨.brk, .brk, h1⟩
  | cont => exact TT.pure fun z' l' => ⟨.cont, .cont, h1⟩
  | ret rv => exact TT.pure fun z' l' => ⟨.ret _, .ret (rv.mono l'), h1⟩
theorem TS.ret {e : Expr} {p : Pos} {Q : Fl → St → Prop} (h : TE C e (fun v σ1 => Q (.ret v) σ1) X σ) : TS C (.Return (some e) p) Q X σ := fun z₀ => by
  rw [exec_Return_some]
  refine TT.at_ (TT.bind (TT.mono (h z₀) ?_))
  rintro z x σ1 l ⟨v, r, h1⟩
  exact TT.pure fun z' l' => ⟨.ret v, .ret (r.mono l'), h1⟩
theorem TS.if_ {t : Expr} {b o : List Stmt} {p : Pos} {Q : Fl → St → Prop} (h : TB C t (fun c σ1 => if c then TSs C b Q X σ1 else TSs C o Q X σ1) X σ) : TS C (.If t b o p) Q X σ := fun z₀ => by
  rw [exec_If]
  refine TT.at_ (TT.bind (TT.mono (h z₀) ?_))
  rintro z c σ1 l h1
  cases c
  · exact h1 z
  · exact h1 z
theorem TS.assign {x : Str} {p p' : Pos} {e : Expr} {Q : Fl → St → Prop} (k : Stores C x) (h : TE C e (fun v σ1 => Q .next ⟨setL σ1.loc x v, σ1.H⟩) X σ)
    (hs : swapsWith e (some (.Name x p')) p.line C.env = pure false := by rfl) : TS C (.Assign [.Name x p'] e p) Q X σ := fun z₀ => by
  rw [exec_Assign_Name C.env x p' e p hs]
  refine TT.at_ (TT.bind (TT.mono (h z₀) ?_))
  rintro z val σ1 l ⟨v, r, h1⟩
  exact TT.at_ (TT.bind (TT.store k r fun z' l' => TT.pure fun z'' _ => ⟨.next, .next, h1⟩))
theorem TS.aug {x : Str} {p p' : Pos} {op : Operator} {e : Expr} {v : V} {Q : Fl → St → Prop} (k : Stores C x) (hv : σ.loc.lookup x = some v)
    (h : TE C e (fun w σ1 => Inp C op v w (fun u σ2 => Q .next ⟨setL σ2.loc x u, σ2.H⟩) X σ1) X σ) : TS C (.AugAssign (.Name x p') op e p) Q X σ := fun z₀ => by
  rw [exec_AugAssign_Name]
  refine TT.at_ (TT.bind (f := fun old => _) (m := loadName C.env x) ?_)
  intro zs z s hz hR
  have go : ∀ val, Rep z v val → ∃ z' σ', Z.le z z' ∧ R C zs σ' z' s ∧ (fun z a σ1 => TT C z (do
      let v ← holding [a] (eval e C.env)
      standAt p
      let new ← operate [a, v] (inplaceOp op a v)
      standAt p'
      bindName C.env x new
      pure Flow.next) (PFl Q) X σ1) z' val σ' := by
    intro val r
    refine ⟨z, σ, Z.le_refl _, hR, ?_⟩
    refine TT.bind (TT.holding (TT.mono (h z) ?_))
    rintro z1 w σ1 l1 ⟨vw, rw', h1⟩
    refine TT.at_ (TT.bind (TT.operate (TT.mono (h1 z1 val w (r.mono l1) rw') ?_)))
    rintro z2 u σ2 l2 ⟨vu, ru, h2⟩
    exact TT.at_ (TT.bind (TT.store k ru fun z' l' => TT.pure fun z'' _ => ⟨.next, .next, h2⟩))
  cases k with
  | loc hl =>
    obtain ⟨m, hn, hm⟩ := hR.ns
    obtain ⟨val, e', r⟩ := hm x v hv hl
    exact wpAny_loadName_local C.hk hl hn e' (go val r)
  | cell c hl hc hro =>
    obtain ⟨c', val, e', hc', r⟩ := hR.cells x v hv (by rw [hl]; rfl)
    exact wpAny_loadName_cell C.hk hl e' hc' (go val r)
theorem TSs.weaken {st : List Stmt} {Q : Fl → St → Prop} {σ' : St} (h1 : ∀ x v, σ'.loc.lookup x = some v → σ.loc.lookup x = some v) (h2 : σ'.H.Sublist σ.H) (h : TSs C st Q X σ') : TSs C st Q X σ := fun z₀ => (h z₀).weaken h1 h2
theorem TE.mono {e : Expr} {Q Q' : V → St → Prop} (h : TE C e Q X σ) (k : ∀ f σ, Q f σ → Q' f σ) : TE C e Q' X σ := fun z₀ => (h z₀).mono fun z f σ' _ ⟨fl, r, q⟩ => ⟨fl, r, k _ _ q⟩
end
end PL

end
section
open PySem PySem.Calls PyProof.Rows
set_option Elab.async false
set_option linter.unusedVariables false
set_option linter.unusedSimpArgs false
namespace PL

section
variable {C : Cx} {X : XP} {σ : St} {Q : V → St → Prop} {i j : Int} {b c : Bool}

theorem Bin.add_int (h : Q (.int (i + j)) σ) : Bin C .Add (.int i) (.int j) Q X σ := by
  rintro z₀ _ _ ⟨⟩ ⟨⟩ zs z s hz hR
  exact P.add_int (PVal.toks hR (.int _ _) h)
theorem Bin.sub_int (h : Q (.int (i - j)) σ) : Bin C .Sub (.int i) (.int j) Q X σ := by
  rintro z₀ _ _ ⟨⟩ ⟨⟩ zs z s hz hR
  exact P.sub_int (PVal.toks hR (.int _ _) h)
theorem Bin.mul_int (hm : IntMulOk i j) (h : Q (.int (i * j)) σ) : Bin C .Mult (.int i) (.int j) Q X σ := by
  rintro z₀ _ _ ⟨⟩ ⟨⟩ zs z s hz hR
  exact P.mul_int (PVal.toks hR (.int _ _) h) hm
theorem Bin.fdiv_int (hj : j ≠ 0) (hp : Builtin.divisionGoesByPylong i j = false) (h : Q (.int (i.fdiv j)) σ) : Bin C .FloorDiv (.int i) (.int j) Q X σ := by
  rintro z₀ _ _ ⟨⟩ ⟨⟩ zs z s hz hR
  exact floordiv_int hj (PVal.toks hR (.int _ _) h) (.inl hp)
theorem Bin.mod_int (hj : j ≠ 0) (h : Q (.int (i.fmod j)) σ) : Bin C .Mod (.int i) (.int j) Q X σ := by
  rintro z₀ _ _ ⟨⟩ ⟨⟩ zs z s hz hR
  exact mod_int' hj (PVal.toks hR (.int _ _) h)
theorem Inp.add_int (h : Q (.int (i + j)) σ) : Inp C .Add (.int i) (.int j) Q X σ := by
  rintro z₀ _ _ ⟨⟩ ⟨⟩ zs z s hz hR
  exact P.iadd_int (PVal.toks hR (.int _ _) h)
theorem Cmp.eq_int (h : Q (.bool (i == j)) σ) : Cmp C .Eq (.int i) (.int j) Q X σ := by
  rintro z₀ _ _ ⟨⟩ ⟨⟩ zs z s hz hR
  exact P.eq_int (PVal.same hR (.bool _) h)
theorem Cmp.lt_int (h : Q (.bool (decide (i < j))) σ) : Cmp C .Lt (.int i) (.int j) Q X σ := by
  rintro z₀ _ _ ⟨⟩ ⟨⟩ zs z s hz hR
  exact P.lt_int (PVal.same hR (.bool _) h)
theorem Cmp.ne_bool (h : Q (.bool (b != c)) σ) : Cmp C .NotEq (.bool b) (.bool c) Q X σ := by
  rintro z₀ _ _ ⟨⟩ ⟨⟩ zs z s hz hR
  exact PyProof.Rows.ne_bool (PVal.same hR (.bool _) h)

theorem ofNat_inj {a b : Nat} (ha : a < 256) (hb : b < 256) (h : UInt8.ofNat a = UInt8.ofNat b) : a = b := by
  have := congrArg UInt8.toNat h
  simp only [UInt8.toNat_ofNat'] at this
  omega
theorem map_ofNat_inj : ∀ {l m : List Nat}, (∀ c ∈ l, c < 256) → (∀ c ∈ m, c < 256) → l.map UInt8.ofNat = m.map UInt8.ofNat → l = m
  | [], [], _, _, _ => rfl
  | [], _ :: _, _, _, h => by simp at h
  | _ :: _, [], _, _, h => by simp at h
  | a :: l, b :: m, hl, hm, h => by
    rw [List.map_cons, List.map_cons, List.cons.injEq] at h
    rw [ofNat_inj (hl a List.mem_cons_self) (hm b List.mem_cons_self) h.1, map_ofNat_inj (fun c hc => hl c (List.mem_cons_of_mem _ hc)) (fun c hc => hm c (List.mem_cons_of_mem _ hc)) h.2]
theorem beq_ofNat {l m : List Nat} (hl : ∀ c ∈ l, c < 256) (hm : ∀ c ∈ m, c < 256) : ((l.map UInt8.ofNat) == (m.map UInt8.ofNat)) = (l == m) := by
  rw [Bool.eq_iff_iff, beq_iff_eq, beq_iff_eq]
  exact ⟨map_ofNat_inj hl hm, fun e => by rw [e]⟩

variable {o : Bool} {l m : List Nat}
theorem Cmp.eq_txt (h : Q (.bool (l == m)) σ) : Cmp C .Eq (.txt o l) (.txt o m) Q X σ := by
  intro z₀ x y rx ry zs z s hz hR
  cases rx with
  | str _ t => cases ry with
    | str _ u => exact P.eq_str (PVal.same hR (.bool _) h)
  | bytes _ t hl => cases ry with
    | bytes _ u hm =>
      refine PySem.W.eq_bytes ?_
      rw [List.toList_toArray, List.toList_toArray, beq_ofNat hl hm]
      exact PVal.same hR (.bool _) h
theorem Cmp.ne_txt (h : Q (.bool (l != m)) σ) : Cmp C .NotEq (.txt o l) (.txt o m) Q X σ := by
  intro z₀ x y rx ry zs z s hz hR
  cases rx with
  | str _ t => cases ry with
    | str _ u => exact P.ne_str (PVal.same hR (.bool _) h)
  | bytes _ t hl => cases ry with
    | bytes _ u hm =>
      refine PySem.W.ne_bytes ?_
      rw [List.toList_toArray, List.toList_toArray, bne, beq_ofNat hl hm]
      exact PVal.same hR (.bool _) h

/-! truth -/
variable {QB : Bool → St → Prop}
theorem Tru.bool (h : QB b σ) : Tru C (.bool b) QB X σ := by
  rintro z₀ _ ⟨⟩ zs z s hz hR
  exact wpAny_truthy_bool ⟨z, σ, Z.le_refl _, hR, h⟩
theorem len_ne0 {α : Type} (l : List α) : ((l.length : Int) != 0) = !l.isEmpty := by cases l <;> simp [bne] <;> omega
theorem Tru.txt (hn : l.length ≤ 16777216) (h : QB (!l.isEmpty) σ) : Tru C (.txt o l) QB X σ := by
  intro z₀ x r zs z s hz hR
  rw [← len_ne0] at h
  cases r with
  | str _ t => exact P.truthy_str (x := ⟨l.toArray⟩) (by simp [Str.length]; omega) ⟨z, σ, Z.le_refl _, hR.toks _, by simpa [Str.length] using h⟩
  | bytes _ t hl => exact PySem.W.truthy_bytes (by simp; omega) ⟨z, σ, Z.le_refl _, hR.toks _, by simpa using h⟩

/-- a list that can be read: frozen, or on the ledger -/
inductive IsL (σ : St) : V → List V → Prop
  | fz (vs : List V) : IsL σ (.lst vs) vs
  | mt {a : Addr} {vs : List V} (h : (a, AO.list vs) ∈ σ.H) : IsL σ (.ref a) vs
theorem IsL.obj {v : V} {vs : List V} (k : IsL σ v vs) {z₀ z zs : Z} {s : Shared} {x : Value} (r : Rep z₀ v x) (hz : Z.le z₀ z) (hR : R C zs σ z s) :
    ∃ a items n, x = .ref a ∧ s.heap.get? a = some (lstO items n) ∧ RepL z vs items := by
  cases k with
  | fz =>
    cases r with
    | lst e hr => exact ⟨_, _, _, rfl, hR.rh.hz _ _ (hz _ _ e), hr.mono hz⟩
  | mt hm =>
    cases r
    obtain ⟨⟨items, n, p, q⟩, _⟩ := hR.rh.hH _ hm
    exact ⟨_, items, n, rfl, p, q⟩
theorem IsL.at {v : V} {vs : List V} (k : IsL σ v vs) {z₀ z zs : Z} {s : Shared} {x : Value} (r : Rep z₀ v x) (hz : Z.le z₀ z) (hR : R C zs σ z s) :
    ∃ a items, x = .ref a ∧ s.heap.IsList a (items : List Value).toArray ∧ RepL z vs items :=
  let ⟨a, items, n, e, h, q⟩ := k.obj r hz hR; ⟨a, items, e, ⟨_, h, rfl, _, rfl⟩, q⟩

end
end PL

end
section
open PySem PySem.Calls PyProof.Rows
set_option Elab.async false
set_option linter.unusedVariables false
set_option linter.unusedSimpArgs false
namespace PL

/-! plain functions on texts -/
def sl {α : Type} (l : List α) (lo hi : Option Int) : List α := (l.drop (lo.elim 0 (clipAt l.length))).take (hi.elim l.length (clipAt l.length) - lo.elim 0 (clipAt l.length))

/-- the place behind the last `c`, 0 where there is none -/
def cut (c : Nat) : List Nat → Nat
  | [] => 0
  | x :: r => if cut c r ≠ 0 then cut c r + 1 else if x = c then 1 else 0
def joinS (sep : List Nat) : List (List Nat) → List Nat
  | [] => []
  | [p] => p
  | p :: q :: r => p ++ sep ++ joinS sep (q :: r)
def rstripS (c : Nat) (l : List Nat) : List Nat := (l.reverse.dropWhile (· == c)).reverse

theorem cut_spec (c : Nat) : ∀ l : List Nat, (cut c l = 0 ∧ ∀ i : Nat, l[i]? ≠ some c) ∨ ∃ k : Nat, cut c l = k + 1 ∧ l[k]? = some c ∧ ∀ j, k < j → l[j]? ≠ some c
  | [] => .inl ⟨rfl, fun i => by simp⟩
  | x :: r => by
    unfold cut
    rcases cut_spec c r with ⟨h0, h⟩ | ⟨k, h0, h1, h2⟩
    · rw [if_neg (by simp [h0])]
      by_cases hx : x = c
      · rw [if_pos hx]
        refine .inr ⟨0, rfl, by simp [hx], fun j hj => ?_⟩
        cases j with
        | zero => omega
        | succ j => simpa using h j
      · rw [if_neg hx]
        refine .inl ⟨rfl, fun i => ?_⟩
        cases i with
        | zero => simpa using hx
        | succ j => simpa using h j
    · rw [if_pos (by omega), h0]
      refine .inr ⟨k + 1, rfl, by simpa using h1, fun j hj => ?_⟩
      cases j with
      | zero => omega
      | succ j => simpa using h2 j (by omega)
theorem cut_le (c : Nat) : ∀ l : List Nat, cut c l ≤ l.length
  | [] => Nat.le_refl _
  | x :: r => by
    have := cut_le c r
    unfold cut
    (repeat' split) <;> simp <;> omega

section
open Builtin Builtin.Str
theorem at_one (l : List Nat) (c i : Nat) : StrLaws.At ⟨l.toArray⟩ ⟨#[c]⟩ (⟨l.toArray⟩ : Str).length i ↔ l[i]? = some c := by
  have := StrLaws.subAt_one ⟨l.toArray⟩ c i
  simpa [StrLaws.At] using this
theorem str_rfind (l : List Nat) (c : Nat) : Txt.rfind ⟨l.toArray⟩ ⟨#[c]⟩ = (cut c l : Int) - 1 := by
  rcases rfind_whole ⟨l.toArray⟩ ⟨#[c]⟩ with ⟨h, n⟩ | ⟨i, h, hat, n⟩
  · rw [h]
    rcases cut_spec c l with ⟨h0, _⟩ | ⟨k, h0, h1, _⟩
    · rw [h0]; rfl
    · exact absurd ((at_one l c k).mpr h1) (n k)
  · rw [h]
    have hi := (at_one l c i).mp hat
    rcases cut_spec c l with ⟨h0, h1⟩ | ⟨k, h0, h1, h2⟩
    · exact absurd hi (h1 i)
    · rw [h0]
      have a : ¬ i < k := fun q => n k q ((at_one l c k).mpr h1)
      have b : ¬ k < i := fun q => h2 i q hi
      have : i = k := by omega
      subst this
      omega
theorem str_join (sep : List Nat) : ∀ ps : List (List Nat), Str.join (strOf sep) (ps.map strOf) = strOf (joinS sep ps)
  | [] => rfl
  | [p] => rfl
  | p :: q :: r => by
    have ih := str_join sep (q :: r)
    show strOf p ++ strOf sep ++ Str.join (strOf sep) ((q :: r).map strOf) = _
    rw [ih]
    apply Str.ext'
    simp [Str.cps_append, strOf, joinS]
end
end PL

end
section
open PySem PySem.Calls PyProof.Rows
set_option Elab.async false
set_option linter.unusedVariables false
set_option linter.unusedSimpArgs false
namespace PL

/-! subscripts -/
section
variable {C : Cx} {X : XP} {σ : St} {Q : V → St → Prop}

def Item (C : Cx) (o i : V) (Q : V → St → Prop) (X : XP) (σ : St) : Prop := ∀ value slice z₀ x y, Rep z₀ o x → Rep z₀ i y → TT C z₀ (subscriptTail value slice x y) (PVal Q) X σ
theorem subscripted_ops (slice : Expr) (x y : Value) : ∃ ops, subscripted slice false x y = operate ops (getItem x y) := by
  unfold subscripted
  split
  · exact ⟨_, rfl⟩
  · rename_i h; cases h
  · exact ⟨_, rfl⟩
theorem TE.sub {value slice : Expr} {pos : Pos} (h : TE C value (fun o σ1 => TE C slice (fun i σ2 => Item C o i Q X σ2) X σ1) X σ) : TE C (.Subscript value slice pos) Q X σ := by
  intro z₀
  have e : eval (.Subscript value slice pos) C.env = (do let o ← eval value C.env; let i ← holding [o] (eval slice C.env); standAt pos; subscriptTail value slice o i) := by rw [eval_Subscript]; rfl
  rw [e]
  refine TT.bind (TT.mono (h z₀) ?_)
  rintro z a σ1 l1 ⟨va, ra, h1⟩
  refine TT.bind (TT.holding (TT.mono (h1 z) ?_))
  rintro z' b σ2 l2 ⟨vb, rb, h2⟩
  exact TT.at_ (h2 value slice z' a b (ra.mono l2) rb)

theorem tail_of {M : Model} {A : Around} {E : Value → Shared → Prop} {s : Shared} {value slice : Expr} {o i : Value} {T id : String} {Q : Value → Shared → Prop} (hT : s.TypeIs o T)
    (hl : typeLookup (.type T) "__getitem__" = pure (some (.builtin id))) {prog : Program} {w : World} (hM : M = model prog w) (hg : wpAny M A (getItem o i) Q E s) : wpAny M A (subscriptTail value slice o i) Q E s := by
  obtain ⟨ops, hs⟩ := subscripted_ops slice o i
  subst hM
  exact tail_any hT hl hg hs

theorem seqIndex_ok {k : Int} {n j : Nat} (h : (if k < 0 then k + n else k) = (j : Int)) (hj : j < n) : seqIndex? k n = some j := by
  unfold seqIndex?
  by_cases hk : k < 0
  · simp only [hk, if_true] at h ⊢
    rw [h]; simp [hj]
  · simp only [hk, if_false] at h ⊢
    rw [h]; simp [hj]

/-- which place an index tells -/
def At (k : Int) (n j : Nat) : Prop := (if k < 0 then k + n else k) = (j : Int) ∧ j < n

theorem Item.list {v : V} {vs : List V} {k : Int} {j : Nat} {u : V} (hl : IsL σ v vs) (hn : vs.length ≤ 16777216) (ha : At k vs.length j) (hu : vs[j]? = some u) (h : Q u σ) : Item C v (.int k) Q X σ := by
  rintro value slice z₀ x _ rx ⟨⟩ zs z s hz hR
  obtain ⟨a, items, rfl, p, q⟩ := hl.at rx hz hR
  obtain ⟨xv, hx, r⟩ := q.get hu
  obtain ⟨h1, h2⟩ := ha
  have hlen := q.length
  refine tail_of p.typeIs slot_list_getitem.lookup rfl ?_
  by_cases hk : k < 0
  · rw [if_pos hk] at h1
    refine wpAny_getItem_list_neg p hk (by rw [List.size_toArray, hlen]; omega) (by omega) (x := xv) ?_ (PVal.same hR r h)
    rw [List.size_toArray, hlen, h1]; simpa using hx
  · rw [if_neg hk] at h1
    refine wpAny_getItem_list p (by omega) (by omega) (x := xv) ?_ (PVal.same hR r h)
    rw [h1]; simpa using hx
theorem Item.str {l : List Nat} {k : Int} {j c : Nat} (hn : l.length ≤ 16777216) (ha : At k l.length j) (hu : l[j]? = some c) (h : Q (.txt false [c]) σ) : Item C (.txt false l) (.int k) Q X σ := by
  rintro value slice z₀ x _ rx ⟨⟩ zs z s hz hR
  cases rx with
  | str _ t =>
    obtain ⟨h1, h2⟩ := ha
    refine tail_of (typeIs_str _ _ _) PySem.F.slot_str_getitem.lookup rfl ?_
    refine P.getItem_str (c := c) ?_ ?_ (PVal.toks hR (.str [c] _) h)
    · by_cases hk : k < 0
      · rw [if_pos hk] at h1; simp; omega
      · rw [if_neg hk] at h1; simp; omega
    · have : seqIndex? k (⟨l.toArray⟩ : Str).length = some j := by
        show seqIndex? k l.toArray.size = some j
        rw [List.size_toArray]; exact seqIndex_ok h1 h2
      rw [this]; simpa using hu
/-! slices -/
def Slc (C : Cx) (o : V) (lo hi st : Option Int) (Q : V → St → Prop) (X : XP) (σ : St) : Prop :=
  ∀ value slice zs z s x a l u w, R C zs σ z s → Rep z o x → s.heap.IsSliceOf a l u w → IsPart l lo → IsPart u hi → IsPart w st →
    wpAny C.M C.A (subscriptTail value slice x (.ref a)) (fun val s' => ∃ z' σ', Z.le z z' ∧ R C zs σ' z' s' ∧ PVal Q z' val σ') (PX C zs z X) s
/-- a part of a slice -/
def TOpt (C : Cx) (e : Option Expr) (Q : Option Int → St → Prop) (X : XP) (σ : St) : Prop :=
  ∀ z₀, TT C z₀ (evalPart e C.env) (fun z x σ' => ∃ i, IsPart x i ∧ Q i σ') X σ
theorem TOpt.none {Q : Option Int → St → Prop} (h : Q none σ) : TOpt C none Q X σ := fun z₀ => TT.eq (evalPart_none _) fun z _ => ⟨_, .none, h⟩
theorem TOpt.some {e : Expr} {Q : Option Int → St → Prop} (h : TE C e (fun v σ' => ∃ i, v = .int i ∧ Q (some i) σ') X σ) : TOpt C (some e) Q X σ := by
  intro z₀
  show TT C z₀ (eval e C.env) _ X σ
  refine TT.mono (h z₀) ?_
  rintro z x σ' l ⟨v, r, i, rfl, q⟩
  cases r with
  | int _ t => exact ⟨_, .int i t, q⟩
theorem TE.subsl {value : Expr} {lo hi st : Option Expr} {p pos : Pos}
    (h : TE C value (fun o σ1 => TOpt C lo (fun a σ2 => TOpt C hi (fun b σ3 => TOpt C st (fun c σ4 => Slc C o a b c Q X σ4) X σ3) X σ2) X σ1) X σ) : TE C (.Subscript value (.Slice lo hi st p) pos) Q X σ := by
  intro z₀ zs z s hz hR
  refine Subscript_ (wpAny_mono (h z₀ zs z s hz hR) ?_ fun _ _ x => x)
  rintro o s1 ⟨z1, σ1, l1, R1, v, ro, h1⟩
  refine wpAny_Slice (wpAny_mono (h1 z1 zs z1 s1 (Z.le_refl _) R1) ?_ fun _ _ x => PX.le l1 x)
  rintro lv s2 ⟨z2, σ2, l2, R2, a, pa, h2⟩
  refine wpAny_mono (h2 z2 zs z2 s2 (Z.le_refl _) R2) ?_ fun _ _ x => PX.le (Z.le_trans l1 l2) x
  rintro uv s3 ⟨z3, σ3, l3, R3, b, pb, h3⟩
  refine wpAny_mono (h3 z3 zs z3 s3 (Z.le_refl _) R3) ?_ fun _ _ x => PX.le (Z.le_trans (Z.le_trans l1 l2) l3) x
  rintro wv s4 ⟨z4, σ4, l4, R4, c, pc, h4⟩
  have ll := Z.le_trans (Z.le_trans (Z.le_trans l1 l2) l3) l4
  refine wpAny_mono (h4 value (.Slice lo hi st p) zs z4 _ o s4.heap.objs.size lv uv wv (R4.push' _) (ro.mono (Z.le_trans (Z.le_trans l2 l3) l4)) (Heap.IsSliceOf.new ..) pa pb pc) ?_ fun _ _ x => PX.le ll x
  rintro r s5 ⟨z5, σ5, l5, R5, q⟩
  exact ⟨z5, σ5, Z.le_trans ll l5, R5, q⟩

/-- the places of a slice with a step -/
def pick {α : Type} (l : List α) (lo hi st : Option Int) : List α :=
  (sliceRange (sliceBounds lo hi st l.length).1 (sliceBounds lo hi st l.length).2.1 (sliceBounds lo hi st l.length).2.2).filterMap (l[·]?)
theorem pick_plain {α : Type} (l : List α) (lo hi : Option Int) : pick l lo hi none = sl l lo hi := by
  unfold pick sl
  rw [sliceBounds_plain]
  have := sliceRange_one (lo.elim 0 (clipAt l.length)) (hi.elim l.length (clipAt l.length))
  simp only [this]
  have h := pick_run l.toArray (lo.elim 0 (clipAt l.length)) (hi.elim l.length (clipAt l.length) - lo.elim 0 (clipAt l.length))
  simpa using h
theorem RepL.pick {z : Z} {vs : List V} {xs : List Value} (r : RepL z vs xs) : ∀ idx : List Nat, RepL z (idx.filterMap (vs[·]?)) (idx.filterMap (xs[·]?))
  | [] => .nil
  | i :: idx => by
    have ih := r.pick idx
    cases h : vs[i]? with
    | none =>
      have hx : xs[i]? = none := by
        rw [List.getElem?_eq_none_iff] at h ⊢
        rw [r.length]; exact h
      simpa [List.filterMap_cons, h, hx] using ih
    | some v =>
      obtain ⟨x, hx, rx⟩ := r.get h
      simpa [List.filterMap_cons, h, hx] using RepL.cons rx ih
theorem Slc.list {v : V} {vs : List V} {lo hi st : Option Int} (hl : IsL σ v vs) (hn : vs.length ≤ 16777216) (h0 : st ≠ some 0) (h : Q (.lst (pick vs lo hi st)) σ) : Slc C v lo hi st Q X σ := by
  intro value slice zs z s x a l u w hR rx hs pl pu pw
  obtain ⟨b, items, rfl, p, q⟩ := hl.at rx (Z.le_refl _) hR
  refine tail_of p.typeIs slot_list_getitem.lookup rfl ?_
  have hlen := q.length
  refine wpAny_getItem_list_slice p hs pl pu pw h0 ?_ (by rw [List.size_toArray, hlen]; exact size_ok hn)
  obtain ⟨R', le⟩ := hR.frozen { cls := .type "list", data := .seq (slicePick items.toArray lo hi st) } s.toks
  have hq := q.pick (sliceRange (sliceBounds lo hi st vs.length).1 (sliceBounds lo hi st vs.length).2.1 (sliceBounds lo hi st vs.length).2.2)
  refine ⟨_, _, le, R', _, .lst (n := 0) (items := (sliceRange (sliceBounds lo hi st vs.length).1 (sliceBounds lo hi st vs.length).2.1 (sliceBounds lo hi st vs.length).2.2).filterMap (items[·]?)) ?_ (hq.mono le), h⟩
  rw [put_self]
  unfold slicePick
  rw [List.size_toArray, hlen]
  simp

theorem part_of {x : Value} {i : Option Int} (p : IsPart x i) : ∃ k : Option (Int × Tok), x = partValue k ∧ k.map (·.1) = i := by
  cases p with
  | none => exact ⟨none, rfl, rfl⟩
  | int i t => exact ⟨some (i, t), rfl, rfl⟩
theorem strIdx (lo hi : Option Int) (n : Nat) : Builtin.Str.strSliceIndices lo hi 1 n = sliceRange (sliceBounds lo hi none n).1 (sliceBounds lo hi none n).2.1 (sliceBounds lo hi none n).2.2 := by
  unfold Builtin.Str.strSliceIndices sliceBounds
  rfl
theorem sl_length_le {α : Type} (l : List α) (lo hi : Option Int) : (sl l lo hi).length ≤ l.length := by
  unfold sl; simp; omega
theorem sl_whole {α : Type} {l : List α} {lo hi : Option Int} (h : (sl l lo hi).length = l.length) : sl l lo hi = l := by
  unfold sl at h ⊢
  rw [List.length_take, List.length_drop] at h
  by_cases e : lo.elim 0 (clipAt l.length) = 0
  · rw [e] at h ⊢
    rw [List.drop_zero, List.take_of_length_le (by omega)]
  · have : l.length = 0 := by omega
    have : l = [] := List.length_eq_zero_iff.mp this
    subst this; simp
theorem Slc.str {l : List Nat} {lo hi : Option Int} (hn : l.length ≤ 16777216) (h : Q (.txt false (sl l lo hi)) σ) : Slc C (.txt false l) lo hi none Q X σ := by
  intro value slice zs z s x a lv uv wv hR rx hs pl pu pw
  cases rx with
  | str _ t =>
    obtain ⟨kl, rfl, el⟩ := part_of pl
    obtain ⟨ku, rfl, eu⟩ := part_of pu
    cases pw
    refine tail_of (typeIs_str _ _ _) PySem.F.slot_str_getitem.lookup rfl ?_
    refine wpAny_getItem_str_slice (l := kl) (u := ku) (st := none) hs rfl ?_
    unfold sliceMade slicePicked
    rw [el, eu]
    have e : (Builtin.Str.strSliceIndices lo hi 1 (⟨l.toArray⟩ : Str).length).filterMap ((⟨l.toArray⟩ : Str).cps[·]?) = sl l lo hi := by
      rw [strIdx, ← pick_plain]
      unfold pick
      simp [Str.length]
    split
    · rename_i hc
      have hlen : (sl l lo hi).length = l.length := by
        rw [← e]
        simp only [Option.map_none, Option.getD_none, Bool.and_eq_true, beq_iff_eq] at hc
        have h2 := hc.2
        refine Nat.le_antisymm (Nat.le_trans (List.length_filterMap_le _ _) (by rw [h2]; simp [Str.length])) ?_
        rw [e]
        -- every place is met
        have h3 : (Builtin.Str.strSliceIndices lo hi 1 (⟨l.toArray⟩ : Str).length).length = (hi.elim l.length (clipAt l.length) - lo.elim 0 (clipAt l.length)) := by
          rw [strIdx, sliceBounds_plain]
          have := sliceRange_one (lo.elim 0 (clipAt l.length)) (hi.elim l.length (clipAt l.length))
          show (sliceRange ((lo.elim 0 (clipAt l.length) : Nat) : Int) ((hi.elim l.length (clipAt l.length) : Nat) : Int) 1).length = _
          rw [this]; simp
        rw [h3] at h2
        unfold sl
        rw [List.length_take, List.length_drop]
        have : (⟨l.toArray⟩ : Str).length = l.length := by simp [Str.length]
        have hcl : hi.elim l.length (clipAt l.length) ≤ l.length := by
          cases hi with
          | none => exact Nat.le_refl _
          | some i =>
            have := clipAt_cast l.length i
            show clipAt l.length i ≤ l.length
            omega
        omega
      rw [sl_whole hlen] at h
      exact PVal.same hR (.str _ t) h
    · refine ⟨?_, ?_⟩
      · show (List.filterMap _ _).toArray.size ≤ sizeLine
        rw [List.size_toArray]
        have := sl_length_le l lo hi
        rw [← e] at this
        exact size_ok (Nat.le_trans this hn)
      · have e2 := e
        simp only [Option.map_none, Option.getD_none] at e2 ⊢
        rw [e2]
        exact PVal.toks hR (.str _ _) h
theorem Slc.bytes {l : List Nat} {lo hi : Option Int} (hn : l.length ≤ 16777216) (h : Q (.txt true (sl l lo hi)) σ) : Slc C (.txt true l) lo hi none Q X σ := by
  intro value slice zs z s x a lv uv wv hR rx hs pl pu pw
  cases rx with
  | bytes _ t hl =>
    cases pw
    refine tail_of (PySem.W.typeIs_bytes _ _ _) PySem.W.FB.slot_bytes_getitem.lookup rfl ?_
    have e : PySem.W.KBy.picked (l.map UInt8.ofNat).toArray lo hi = ((sl l lo hi).map UInt8.ofNat).toArray := by
      rw [PySem.W.KBc.picked_eq]
      unfold sl
      simp [List.map_take, List.map_drop]
    refine getItem_meets (PySem.W.typeIs_bytes _ _ _) (by decide) PySem.W.FB.slot_bytes_getitem PySem.W.FB.entry_bytes_getitem (PySem.W.FB.args_bytes_getitem_2 _ _) (PySem.W.KBc.meets_slice2 _ t a pl pu) ⟨hs, ?_, ?_⟩
    · rw [e, List.size_toArray, List.length_map]
      exact size_ok (Nat.le_trans (sl_length_le l lo hi) hn)
    · intro t' k
      rw [e]
      refine PVal.toks hR (.bytes _ _ fun c hc => hl c ?_) h
      unfold sl at hc
      exact List.mem_of_mem_drop (List.mem_of_mem_take hc)
theorem Slc.txt {o : Bool} {l : List Nat} {lo hi : Option Int} (hn : l.length ≤ 16777216) (h : Q (.txt o (sl l lo hi)) σ) : Slc C (.txt o l) lo hi none Q X σ := by
  cases o
  · exact Slc.str hn h
  · exact Slc.bytes hn h
end
end PL

end
section
open PySem PySem.Calls PyProof.Rows
set_option Elab.async false
set_option linter.unusedVariables false
set_option linter.unusedSimpArgs false
namespace PL

/-! calls -/
section
variable {C : Cx} {X : XP} {σ : St} {Q : V → St → Prop}

inductive Kept (g : Gd) : Value → Prop
  | bi (id : String) : Kept g (.builtin id)
  | ty (n : String) : Kept g (.type n)
  | fn {a : Addr} {o : Obj} {fd : FuncData} (h : g.base.get? a = some o) (hd : o.data = .func fd) : Kept g (.ref a)

def CallV (C : Cx) (f : Value) (vs : List V) (Q : V → St → Prop) (X : XP) (σ : St) : Prop := ∀ z₀ xs, RepL z₀ vs xs → TT C z₀ (call f xs []) (PVal Q) X σ

theorem evalArgs_of {M : Model} {A : Around} {E : Value → Shared → Prop} {s : Shared} {f : Value} {args : List (Bool × Sem Value)} {Q : Args → Shared → Prop} (hp : args.any (·.1) = false)
    (h : wpAny M A (spliced args) (fun vs s' => Q ⟨vs, []⟩ s') E s) : wpAny M A (evalArgs f true args []) Q E s := by
  have e : evalArgs f true args [] = (do
      let pos ← spliced args
      holding pos (do
        let kw := (([] : List (Option Str × Sem Value)).filterMap (·.1)).zip (← evalAll [])
        return ⟨← pure pos, kw⟩)) := by
    unfold evalArgs
    cases args with
    | nil => simp
    | cons a r =>
      obtain ⟨b, x⟩ := a
      cases b with
      | true => simp at hp
      | false => simp
  rw [e]
  refine wpAny_bind (wpAny_mono h (fun vs s' h' => ?_) fun _ _ x => x)
  exact wpAny_holding (wpAny_bind (wpAny_pure (wpAny_bind (wpAny_pure (wpAny_pure h')))))

theorem TT.callWith {z₀ : Z} {pos : Pos} {f : Value} {first : List Value} {args : List (Bool × Sem Value)} {P : Z → Value → St → Prop} (kf : Kept C.g f) (hp : args.any (·.1) = false)
    (h : TT C z₀ (spliced args) (fun z xs σ1 => TT C z (call f (first ++ xs) []) P X σ1) X σ) : TT C z₀ (callWith pos f first args []) P X σ := by
  intro zs z s hz hR
  have go : wpAny C.M C.A (spliced args) (fun xs s' => wpAny C.M C.A (call f (first ++ xs) []) (fun a s'' => ∃ z' σ', Z.le z z' ∧ R C zs σ' z' s'' ∧ P z' a σ') (PX C zs z X) s' ∧ ∀ b o, C.g.base.get? b = some o → s'.heap.get? b = some o) (PX C zs z X) s := by
    refine wpAny_mono (h zs z s hz hR) ?_ fun _ _ x => x
    rintro xs s1 ⟨z1, σ1, l1, R1, k⟩
    refine ⟨wpAny_mono (k zs z1 s1 (Z.le_refl _) R1) ?_ fun _ _ x => PX.le l1 x, R1.rh.base⟩
    rintro a s2 ⟨z2, σ2, l2, R2, q⟩
    exact ⟨z2, σ2, Z.le_trans l1 l2, R2, q⟩
  cases kf with
  | bi id => exact callWith_builtin hp (evalArgs_of hp (wpAny_mono go (fun _ _ x => x.1) fun _ _ x => x))
  | ty n => exact PyProof.Rows.callWith_type hp (evalArgs_of hp (wpAny_mono go (fun _ _ x => x.1) fun _ _ x => x))
  | fn hb hd => exact callWith_function (evalArgs_of hp (wpAny_mono go (fun _ _ x => ⟨⟨x.2 _ _ hb, hd⟩, x.1⟩) fun _ _ x => x))

theorem TE.call {func : Expr} {args : List Expr} {pos : Pos} (h : TE C func (fun fv σ1 => ∃ f, fv = .con f ∧ Kept C.g f ∧ TArgs C args (fun vs σ2 => CallV C f vs Q X σ2) X σ1) X σ)
    (hp : (backTo pos (starEach args C.env)).any (·.1) = false := by rfl)
    (he : eval (.Call func args [] pos) C.env = (do callWith pos (← eval func C.env) [] (backTo pos (starEach args C.env)) []) := by rfl) : TE C (.Call func args [] pos) Q X σ := by
  intro z₀
  rw [he]
  refine TT.bind (TT.mono (h z₀) ?_)
  rintro z fx σ1 l1 ⟨_, rf, f, rfl, kf, h1⟩
  cases rf
  refine TT.callWith kf hp (TT.mono (h1 pos z) ?_)
  rintro z2 xs σ2 l2 ⟨vs, rs, h2⟩
  exact h2 z2 xs rs

/-- a built-in method of a value -/
def Meth (C : Cx) (σ : St) (ov : V) (name : Str) (id : String) : Prop :=
  ∀ zs z s x pl (Q' : Value × List Value → Shared → Prop) E, R C zs σ z s → Rep z ov x → Q' (.builtin id, [x]) s → wpAny C.M C.A (getMethod x name pl) Q' E s
theorem TE.meth {o : Expr} {name : Str} {id : String} {apos pos : Pos} {args : List Expr} (h : TE C o (fun ov σ1 => Meth C σ1 ov name id ∧ TArgs C args (fun vs σ2 => CallV C (.builtin id) (ov :: vs) Q X σ2) X σ1) X σ)
    (hp : (backTo pos (starEach args C.env)).any (·.1) = false := by rfl) (hb : attributeBase o name C.env (eval o C.env) = eval o C.env := by rfl)
    (hf : methodCallForm (args.length + 0) (backTo pos (starEach args C.env)) [] = true := by rfl) (hl : (apos.endLine == pos.line) = true := by rfl) : TE C (.Call (.Attribute o name apos) args [] pos) Q X σ := by
  intro z₀
  have e : eval (.Call (.Attribute o name apos) args [] pos) C.env = (do
    let ov ← eval o C.env
    standAt apos.atName
    let (f, first) ← holding [ov] (getMethod ov name (do return (← importBound o C.env).getD true))
    callWith pos f first (backTo pos (starEach args C.env)) []) := by
    have e0 : eval (.Call (.Attribute o name apos) args [] pos) C.env = (do
        let ov ← attributeBase o name C.env (eval o C.env)
        standAt apos.atName
        methodCall o name apos pos C.env ov (args.length + 0) (backTo pos (starEach args C.env)) []) := rfl
    rw [e0, hb]
    unfold methodCall methodCallPos calleeOf
    rw [hf]
    simp only [hl, if_true, Bool.not_true, Bool.false_or]
    rfl
  rw [e]
  refine TT.bind (TT.mono (h z₀) ?_)
  rintro z x σ1 l1 ⟨ov, rv, hm, h1⟩
  refine TT.at_ ?_
  intro zs z' s hz' hR
  refine wpAny_bind (wpAny_holding (hm zs z' s x _ _ _ hR (rv.mono hz') ?_))
  refine TT.callWith (C := C) (z₀ := z') (σ := σ1) (X := X) (.bi id) hp (TT.mono (h1 pos z') ?_) zs z' s (Z.le_refl _) hR
  rintro z2 xs σ2 l2 ⟨vs, rs, h2⟩
  exact h2 z2 _ (.cons ((rv.mono hz').mono l2) rs)
theorem CallV.toks {f : Value} {vs : List V} (h : ∀ z₀ zs z s xs, Z.le z₀ z → R C zs σ z s → RepL z vs xs → wpAny C.M C.A (call f xs []) (fun a s' => ∃ z' σ', Z.le z z' ∧ R C zs σ' z' s' ∧ PVal Q z' a σ') (PX C zs z X) s) : CallV C f vs Q X σ :=
  fun z₀ xs r zs z s hz hR => h z₀ zs z s xs hz hR (r.mono hz)
end

/-! facts of the methods of bytes -/
namespace BF
open PySem.W.FB
theorem slot_rfind : Slot "bytes" "rfind" "bytes.rfind" :=
  .of (owner := "bytes") (n := "rfind") (by rw [typeLookup_type, builtinLookup_eq_fast]; kernel_rfl) (by decide +kernel) (by decide +kernel) (by decide +kernel)
    (by first | exact .inl (by decide +kernel) | exact .inr (by decide +kernel)) (by rw [isSubtype_type]; kernel_rfl)
theorem type_rfind : typeOf (.builtin "bytes.rfind") = pure (.type "method_descriptor") := by show builtinType _ = _; rw [builtinType_eq_fast]; kernel_rfl
theorem entry_rfind : entryFor table "bytes.rfind" = some Builtin.«bytes.rfind» := entryFor_of_tree (by kernel_rfl)
theorem args_rfind (a b : Value) : argsOk "bytes.rfind" ⟨[a, b], []⟩ := by
  unfold argsOk; rw [signature?_of (id := "bytes.rfind") (n := ['d', 'n', 'i', 'f', 'r']) (o := ['s', 'e', 't', 'y', 'b']) (by kernel_rfl) owner_bytes]; kernel_rfl
theorem slot_rstrip : Slot "bytes" "rstrip" "bytes.rstrip" :=
  .of (owner := "bytes") (n := "rstrip") (by rw [typeLookup_type, builtinLookup_eq_fast]; kernel_rfl) (by decide +kernel) (by decide +kernel) (by decide +kernel)
    (by first | exact .inl (by decide +kernel) | exact .inr (by decide +kernel)) (by rw [isSubtype_type]; kernel_rfl)
theorem type_rstrip : typeOf (.builtin "bytes.rstrip") = pure (.type "method_descriptor") := by show builtinType _ = _; rw [builtinType_eq_fast]; kernel_rfl
theorem entry_rstrip : entryFor table "bytes.rstrip" = some Builtin.«bytes.rstrip» := entryFor_of_tree (by kernel_rfl)
theorem args_rstrip (a b : Value) : argsOk "bytes.rstrip" ⟨[a, b], []⟩ := by
  unfold argsOk; rw [signature?_of (id := "bytes.rstrip") (n := ['p', 'i', 'r', 't', 's', 'r']) (o := ['s', 'e', 't', 'y', 'b']) (by kernel_rfl) owner_bytes]; kernel_rfl
end BF

section
variable {C : Cx} {σ : St}
theorem Meth.str {l : List Nat} {name : Str} {id : String} (slot : Slot "str" name id) (ty : typeOf (.builtin id) = pure (.type "method_descriptor")) : Meth C σ (.txt false l) name id := by
  intro zs z s x pl Q' E hR r h
  cases r with
  | str _ t => with_reducible exact GM.of (.str _ t) (typeIs_str _ _ _) slot ty GM.noRef h
theorem Meth.bytes {l : List Nat} {name : Str} {id : String} (slot : Slot "bytes" name id) (ty : typeOf (.builtin id) = pure (.type "method_descriptor")) : Meth C σ (.txt true l) name id := by
  intro zs z s x pl Q' E hR r h
  cases r with
  | bytes _ t hl => with_reducible exact PySem.W.KBd.method_of (.bytes _ t) (PySem.W.typeIs_bytes _ _ _) slot ty PySem.W.KBd.noRef h
end
end PL

end
section
open PySem PySem.Calls PyProof.Rows
set_option Elab.async false
set_option linter.unusedVariables false
set_option linter.unusedSimpArgs false
namespace PL

/-! bytes: what the model's searches give on a single sign -/
section
open Builtin
theorem extract_one {b : List UInt8} {i : Nat} {c : UInt8} : (b.toArray.extract i (i + (#[c] : Array UInt8).size) == #[c]) = true ↔ b[i]? = some c := by
  have e : b.toArray.extract i (i + (#[c] : Array UInt8).size) = ((b.drop i).take 1).toArray := by
    simp [List.extract_toArray, List.extract_eq_take_drop]
  rw [e]
  constructor
  · intro h
    have h2 := eq_of_beq h
    have h3 : (b.drop i).take 1 = [c] := by simpa using congrArg Array.toList h2
    cases hd : b.drop i with
    | nil => rw [hd] at h3; simp at h3
    | cons x r =>
      rw [hd] at h3
      simp at h3
      have : b[i]? = (b.drop i)[0]? := by simp
      rw [this, hd]; simp [h3]
  · intro h
    have : (b.drop i).take 1 = [c] := by
      have h2 : (b.drop i)[0]? = some c := by simpa using h
      cases hd : b.drop i with
      | nil => rw [hd] at h2; simp at h2
      | cons x r => rw [hd] at h2; simp at h2; simp [h2]
    rw [this]; simp
theorem find_rev {P : Nat → Bool} (n k : Nat) (hk : k < n) (h1 : P k = true) (h2 : ∀ j, k < j → j < n → P j = false) : (List.range n).reverse.find? P = some k := by
  induction n with
  | zero => omega
  | succ n ih =>
    rw [List.range_succ, List.reverse_append, List.reverse_singleton, List.singleton_append, List.find?_cons]
    by_cases e : k = n
    · subst e; rw [h1]
    · rw [h2 n (by omega) (by omega)]
      exact ih (by omega) fun j a b => h2 j a (by omega)
theorem find_rev_none {P : Nat → Bool} (n : Nat) (h : ∀ j, j < n → P j = false) : (List.range n).reverse.find? P = none := by
  rw [List.find?_eq_none]
  intro x hx
  simp at hx
  simp [h x hx]
theorem bytes_rfind? (l : List Nat) (c : Nat) (hl : ∀ x ∈ l, x < 256) (hc : c < 256) :
    Bytes.rfind? (l.map UInt8.ofNat).toArray #[UInt8.ofNat c] 0 l.length = (match cut c l with | 0 => none | k + 1 => some k) := by
  have key : ∀ i, (((l.map UInt8.ofNat).toArray.extract i (i + (#[UInt8.ofNat c] : Array UInt8).size) == #[UInt8.ofNat c]) = true) ↔ l[i]? = some c := by
    intro i
    rw [extract_one, List.getElem?_map, Option.map_eq_some_iff]
    constructor
    · rintro ⟨x, hx, e⟩
      rw [hx, ofNat_inj (hl x (List.mem_of_getElem? hx)) hc e]
    · intro h; exact ⟨c, h, rfl⟩
  unfold Bytes.rfind?
  have er : (List.range (l.length + 1 - (0 + (#[UInt8.ofNat c] : Array UInt8).size))).map (· + 0) = List.range l.length := by simp
  rw [er]
  rcases cut_spec c l with ⟨h0, h⟩ | ⟨k, h0, h1, h2⟩
  · rw [h0]
    exact find_rev_none _ fun j hj => Bool.eq_false_iff.mpr fun e => h j ((key j).mp e)
  · rw [h0]
    refine find_rev _ k (List.getElem?_eq_some_iff.mp h1).1 ((key k).mpr h1) fun j a b => Bool.eq_false_iff.mpr fun e => h2 j a ((key j).mp e)

theorem gives_bytes_rfind {l : List Nat} {c : Nat} {t u : Tok} (hl : ∀ x ∈ l, x < 256) (hc : c < 256) :
    Gives («bytes.rfind» ⟨[.bytes (l.map UInt8.ofNat).toArray t, .bytes #[UInt8.ofNat c] u], []⟩) (.int ((cut c l : Int) - 1)) := by
  refine .of_wp fun M A E s Q hq => ?_
  have e1 : Bytes.searchArgs .bytes "rfind" ⟨[.bytes (l.map UInt8.ofNat).toArray t, .bytes #[UInt8.ofNat c] u], []⟩ =
      pure ((l.map UInt8.ofNat).toArray, #[UInt8.ofNat c], if (l.length : Int) < 1 then none else some (0, l.length)) := by
    have hb : Bytes.buffer? "bytes.rfind" (.bytes #[UInt8.ofNat c] u) = pure (some #[UInt8.ofNat c]) := PySem.W.KBy.buffer_eq
    show (Bytes.buffer? "bytes.rfind" (.bytes #[UInt8.ofNat c] u) >>= fun r => _) = _
    rw [hb]
    show (pure ((l.map UInt8.ofNat).toArray, #[UInt8.ofNat c], _) : Sem _) = _
    have hn : ¬ ((l.length : Int) < 0) := by omega
    simp [Bytes.window, hn, Int.min_self]
  show wpAny M A (Bytes.searchArgs .bytes "rfind" _ >>= fun r => _) _ E s
  refine wpAny_bind (wpAny_of_eq e1 ?_)
  have e2 : ((if (l.length : Int) < 1 then none else some (0, l.length) : Option (Nat × Nat)).bind fun (p : Nat × Nat) => if true = true then Bytes.rfind? (l.map UInt8.ofNat).toArray #[UInt8.ofNat c] p.1 p.2 else Bytes.find? (l.map UInt8.ofNat).toArray #[UInt8.ofNat c] p.1 p.2) =
      (match cut c l with | 0 => none | k + 1 => some k) := by
    by_cases h : (l.length : Int) < 1
    · rw [if_pos h]
      have : l = [] := List.length_eq_zero_iff.mp (by omega)
      subst this; rfl
    · rw [if_neg h]; exact bytes_rfind? l c hl hc
  show wpAny M A (match ((if (l.length : Int) < 1 then none else some (0, l.length) : Option (Nat × Nat)).bind fun (p : Nat × Nat) => if true = true then Bytes.rfind? (l.map UInt8.ofNat).toArray #[UInt8.ofNat c] p.1 p.2 else Bytes.find? (l.map UInt8.ofNat).toArray #[UInt8.ofNat c] p.1 p.2) with
    | some i => retInt i
    | none => (do rule "bytes.rfind.not-found"; retInt (-1))) _ E s
  rw [e2]
  cases hk : cut c l with
  | zero =>
    rw [hk] at hq
    have : ((0 : Nat) : Int) - 1 = -1 := rfl
    rw [this] at hq
    exact wpAny_bind (wpAny_rule (wpAny_bind (wpAny_mkInt (wpAny_pure ⟨_, rfl, hq⟩))))
  | succ k =>
    rw [hk] at hq
    have : ((k + 1 : Nat) : Int) - 1 = (k : Int) := by omega
    rw [this] at hq
    exact wpAny_bind (wpAny_mkInt (wpAny_pure ⟨_, rfl, hq⟩))

theorem bytesLike_eq {id : String} {b : Array UInt8} {t : Tok} : Bytes.bytesLike id (.bytes b t) = pure b := by
  unfold Bytes.bytesLike
  rw [PySem.W.KBy.buffer_eq]
  rfl
theorem dropWhile_map {l : List Nat} {c : Nat} (hl : ∀ x ∈ l, x < 256) (hc : c < 256) : (l.map UInt8.ofNat).dropWhile (#[UInt8.ofNat c] : Array UInt8).contains = (l.dropWhile (· == c)).map UInt8.ofNat := by
  induction l with
  | nil => rfl
  | cons x r ih =>
    have e : (#[UInt8.ofNat c] : Array UInt8).contains (UInt8.ofNat x) = (x == c) := by
      rw [Bool.eq_iff_iff]
      simp only [Array.contains_eq_mem, List.mem_toArray, List.mem_singleton, decide_eq_true_eq, beq_iff_eq]
      constructor
      · intro h; exact ofNat_inj (hl x List.mem_cons_self) hc h
      · intro h; rw [h]
    rw [List.map_cons, List.dropWhile_cons, List.dropWhile_cons, e]
    split
    · exact ih fun y hy => hl y (List.mem_cons_of_mem _ hy)
    · rfl
theorem mem_rstripS {c x : Nat} {l : List Nat} (h : x ∈ rstripS c l) : x ∈ l := by
  unfold rstripS at h
  rw [List.mem_reverse] at h
  exact List.mem_reverse.mp ((List.dropWhile_sublist _).subset h)
theorem rstripS_length (c : Nat) (l : List Nat) : (rstripS c l).length ≤ l.length := by
  unfold rstripS
  rw [List.length_reverse]
  have := (List.dropWhile_sublist (p := (· == c)) (l := l.reverse)).length_le
  simpa using this
theorem rstripS_same {c : Nat} {l : List Nat} (h : (rstripS c l).length = l.length) : rstripS c l = l := by
  unfold rstripS at h ⊢
  rw [List.length_reverse] at h
  have e : l.reverse.dropWhile (· == c) = l.reverse := (List.dropWhile_sublist (p := (· == c)) (l := l.reverse)).eq_of_length (by rw [h, List.length_reverse])
  rw [e, List.reverse_reverse]

section
variable {prog : Program} {w : World} {A : Around} {E : Value → Shared → Prop} {s : Shared} {Q : Value → Shared → Prop} {l : List Nat} {c : Nat} {t u : Tok}
theorem call_bytes_rfind (hl : ∀ x ∈ l, x < 256) (hc : c < 256) (h : Q (.int ((cut c l : Int) - 1) s.toks) { s with toks := s.toks + 1 }) :
    wpAny (model prog w) A (call (.builtin "bytes.rfind") [.bytes (l.map UInt8.ofNat).toArray t, .bytes #[UInt8.ofNat c] u]) Q E s :=
  call_gives BF.slot_rfind (PySem.W.typeIs_bytes _ _ _) BF.entry_rfind (BF.args_rfind _ _) (gives_bytes_rfind hl hc) h
theorem call_bytes_rstrip (hl : ∀ x ∈ l, x < 256) (hc : c < 256) (hn : l.length ≤ 16777216) (h : ∀ t' k, Q (.bytes ((rstripS c l).map UInt8.ofNat).toArray t') { s with toks := k }) :
    wpAny (model prog w) A (call (.builtin "bytes.rstrip") [.bytes (l.map UInt8.ofNat).toArray t, .bytes #[UInt8.ofNat c] u]) Q E s := by
  have g : Gives («bytes.rstrip» ⟨[.bytes (l.map UInt8.ofNat).toArray t, .bytes #[UInt8.ofNat c] u], []⟩)
      (if (rstripS c l).length = l.length then .val (.bytes (l.map UInt8.ofNat).toArray t) else .bytes ((rstripS c l).map UInt8.ofNat).toArray) := by
    refine .of_wp fun M A E s Q hq => ?_
    show wpAny M A (Bytes.bytesLike "bytes.rstrip" (.bytes #[UInt8.ofNat c] u) >>= fun set => _) _ E s
    refine wpAny_bind (wpAny_of_eq bytesLike_eq (wpAny_bind (wpAny_pure ?_)))
    refine wpAny_bind (wpAny_of_eq (a := (l.map UInt8.ofNat).toArray) rfl ?_)
    have ek : ((l.map UInt8.ofNat).toArray.toList.reverse.dropWhile (#[UInt8.ofNat c] : Array UInt8).contains).reverse = (rstripS c l).map UInt8.ofNat := by
      rw [List.toList_toArray, ← List.map_reverse, dropWhile_map (fun x hx => hl x (List.mem_reverse.mp hx)) hc, ← List.map_reverse]
      rfl
    simp only [Bool.false_eq_true, if_false, if_true, List.toList_toArray] at ek ⊢
    rw [ek]
    by_cases e : (rstripS c l).length = l.length
    · rw [if_pos e] at hq
      rw [if_pos (by simp [e])]
      exact wpAny_bind (wpAny_rule (wpAny_bind (wpAny_bind (wpAny_typeOf (PySem.W.typeIs_bytes s _ t) (wpAny_pure (wpAny_pure ⟨_, rfl, hq⟩))))))
    · rw [if_neg e] at hq
      rw [if_neg (by simp [e])]
      exact wpAny_bind (wpAny_mkBytes (wpAny_pure ⟨_, rfl, hq.2⟩) hq.1)
  refine call_gives BF.slot_rstrip (PySem.W.typeIs_bytes _ _ _) BF.entry_rstrip (BF.args_rstrip _ _) g ?_
  by_cases e : (rstripS c l).length = l.length
  · rw [if_pos e]
    have := h t s.toks
    rw [rstripS_same e] at this
    exact this
  · rw [if_neg e]
    refine ⟨?_, h _ _⟩
    rw [List.size_toArray, List.length_map]
    exact size_ok (Nat.le_trans (rstripS_length c l) hn)
end
end
end PL

end
section
open PySem PySem.Calls PyProof.Rows
set_option Elab.async false
set_option linter.unusedVariables false
set_option linter.unusedSimpArgs false
namespace PL
section
open Builtin

section
variable {prog : Program} {w : World} {A : Around} {E : Value → Shared → Prop} {s : Shared} {l : List Nat} {c : Nat} {t u : Tok}
end
end
end PL

end
section
open PySem PySem.Calls PyProof.Rows
set_option Elab.async false
set_option linter.unusedVariables false
set_option linter.unusedSimpArgs false
namespace PL
section
open Builtin
section
variable {prog : Program} {w : World} {A : Around} {E : Value → Shared → Prop} {s : Shared}
end
end
end PL

end
section
open PySem PySem.Calls PyProof.Rows
set_option Elab.async false
set_option linter.unusedVariables false
set_option linter.unusedSimpArgs false
namespace PL

section
variable {C : Cx} {X : XP} {σ : St} {Q : V → St → Prop} {o : Bool} {l m : List Nat} {i : Int} {c : Nat}

theorem strlen {l : List Nat} : (⟨l.toArray⟩ : Str).length = l.length := by simp [Str.length]
theorem fold_rep (l : List Nat) : ∀ (n : Nat) (acc : List Nat), (List.replicate n l.toArray).foldl (· ++ ·) acc.toArray = (acc ++ (List.replicate n l).flatten).toArray
  | 0, acc => by simp
  | n + 1, acc => by
    rw [List.replicate_succ, List.foldl_cons, List.append_toArray, fold_rep l n (acc ++ l), List.replicate_succ, List.flatten_cons, List.append_assoc]
theorem txt_mul (l : List Nat) (n : Int) : Txt.mul ⟨l.toArray⟩ n = ⟨((List.replicate n.toNat l).flatten).toArray⟩ := by
  unfold Txt.mul
  by_cases h1 : n < 1
  · rw [if_pos h1]
    have : n.toNat = 0 := by omega
    rw [this]; rfl
  · rw [if_neg h1]
    by_cases h2 : (n == 1 || (⟨l.toArray⟩ : Str).length == 0) = true
    · rw [if_pos h2]
      simp only [Bool.or_eq_true, beq_iff_eq, strlen] at h2
      rcases h2 with h2 | h2
      · subst h2; simp
      · have : l = [] := List.length_eq_zero_iff.mp h2
        subst this; simp
    · rw [if_neg h2]
      have := fold_rep l n.toNat []
      rw [List.nil_append] at this
      rw [← this]
/-- a text of one sign, over and over -/
theorem Bin.mul_txt (hlo : -1048576 ≤ i) (hhi : i ≤ 1048576) (h : Q (.txt o (List.replicate i.toNat c)) σ) : Bin C .Mult (.txt o [c]) (.int i) Q X σ := by
  rintro z₀ x _ rx ⟨⟩ zs z s hz hR
  have e : (List.replicate i.toNat [c]).flatten = List.replicate i.toNat c := by
    generalize i.toNat = n
    induction n with
    | zero => rfl
    | succ n ih => rw [List.replicate_succ, List.flatten_cons, ih, List.replicate_succ]; rfl
  cases rx with
  | str _ t =>
    refine SB.mul (mulOk_of 1 1048576 (by simp [Str.length]) (by omega) (by omega) (by decide) (by decide)) fun t' k => ?_
    rw [txt_mul, e]
    exact PVal.toks hR (.str _ _) h
  | bytes _ t hl =>
    refine PySem.W.bytes_mul_any (by simp) hlo hhi (by simp) fun t' k => ?_
    have e2 : (List.replicate i.toNat (List.map UInt8.ofNat [c])).flatten = (List.replicate i.toNat c).map UInt8.ofNat := by
      rw [← e, List.map_flatten, List.map_replicate]
    rw [e2]
    refine PVal.toks hR (.bytes _ _ fun d hd => ?_) h
    rw [(List.mem_replicate.mp hd).2]
    exact hl c List.mem_cons_self

/-! methods of texts -/
theorem call_rfind_str (h : Q (.int ((cut c l : Int) - 1)) σ) : CallV C (.builtin "str.rfind") [.txt false l, .txt false [c]] Q X σ := by
  refine CallV.toks ?_
  intro z₀ zs z s xs hz hR r
  cases r with
  | cons r1 r => cases r1 with
    | str _ t => cases r with
      | cons r2 r => cases r2 with
        | str _ u => cases r with
          | nil =>
            refine SC.rfind ?_
            rw [str_rfind]
            exact PVal.toks hR (.int _ _) h
theorem call_rfind_bytes (h : Q (.int ((cut c l : Int) - 1)) σ) : CallV C (.builtin "bytes.rfind") [.txt true l, .txt true [c]] Q X σ := by
  refine CallV.toks ?_
  intro z₀ zs z s xs hz hR r
  cases r with
  | cons r1 r => cases r1 with
    | bytes _ t hl => cases r with
      | cons r2 r => cases r2 with
        | bytes _ u hc => cases r with
          | nil => exact call_bytes_rfind hl (hc c List.mem_cons_self) (PVal.toks hR (.int _ _) h)
theorem str_rstrip (l : List Nat) (c : Nat) : Txt.rstripChars ⟨l.toArray⟩ ⟨#[c]⟩ = ⟨(rstripS c l).toArray⟩ := by
  unfold Txt.rstripChars Txt.stripBy
  have eg : (⟨#[c]⟩ : Str).cps.contains = fun x => x == c := by
    funext x
    rw [Bool.eq_iff_iff]
    simp
  rw [eg]
  have key : l.length - (l.reverse.takeWhile (fun x => x == c)).length = (rstripS c l).length := by
    unfold rstripS
    rw [List.length_reverse]
    have h := congrArg List.length (List.takeWhile_append_dropWhile (p := fun x => x == c) (l := l.reverse))
    rw [List.length_append, List.length_reverse] at h
    omega
  have hhi : stripHi (fun x => x == c) true ⟨l.toArray⟩ 0 = (rstripS c l).length := by
    show (⟨l.toArray⟩ : Str).length - _ = _
    rw [strlen]; simpa using key
  have hpre : rstripS c l = l.take (rstripS c l).length := by
    have h := List.takeWhile_append_dropWhile (p := fun x => x == c) (l := l.reverse)
    have h2 := congrArg List.reverse h
    rw [List.reverse_append, List.reverse_reverse] at h2
    have h3 : l = rstripS c l ++ (l.reverse.takeWhile (fun x => x == c)).reverse := h2.symm
    generalize rstripS c l = r at h3 ⊢
    rw [h3]; simp
  have hlo : stripLo (fun x => x == c) false ⟨l.toArray⟩ = 0 := rfl
  unfold stripSame stripped
  rw [hlo, hhi, strlen]
  by_cases h : ((0 : Nat) == 0 && (rstripS c l).length == l.length) = true
  · rw [if_pos h]
    simp only [Bool.and_eq_true, beq_iff_eq] at h
    rw [rstripS_same h.2]
  · rw [if_neg h]
    apply Str.ext'
    show ((⟨l.toArray⟩ : Str).cps.extract 0 (rstripS c l).length) = _
    conv => rhs; rw [hpre]
    simp [List.extract_toArray, List.extract_eq_take_drop]
theorem call_rstrip_str (hn : l.length ≤ 16777216) (h : Q (.txt false (rstripS c l)) σ) : CallV C (.builtin "str.rstrip") [.txt false l, .txt false [c]] Q X σ := by
  refine CallV.toks ?_
  intro z₀ zs z s xs hz hR r
  cases r with
  | cons r1 r => cases r1 with
    | str _ t => cases r with
      | cons r2 r => cases r2 with
        | str _ u => cases r with
          | nil =>
            refine SC.rstripChars (fun t' k => ?_) (by rw [strlen]; exact size_ok hn)
            rw [str_rstrip]
            exact PVal.toks hR (.str _ _) h
theorem call_rstrip_bytes (hn : l.length ≤ 16777216) (h : Q (.txt true (rstripS c l)) σ) : CallV C (.builtin "bytes.rstrip") [.txt true l, .txt true [c]] Q X σ := by
  refine CallV.toks ?_
  intro z₀ zs z s xs hz hR r
  cases r with
  | cons r1 r => cases r1 with
    | bytes _ t hl => cases r with
      | cons r2 r => cases r2 with
        | bytes _ u hc => cases r with
          | nil => exact call_bytes_rstrip hl (hc c List.mem_cons_self) hn fun t' k => PVal.toks hR (.bytes _ _ fun d hd => hl d (mem_rstripS hd)) h
end
end PL

end
section
open PySem PySem.Calls PyProof.Rows
set_option Elab.async false
set_option linter.unusedVariables false
set_option linter.unusedSimpArgs false
namespace PL

abbrev XL := String → Led → Prop

/-- what a call of a function does, for every caller -/
def CallT (g : Gd) (n : Nat) (f : Value) (vs : List V) (Q : V → Led → Prop) (X : XL) (H : Led) : Prop :=
  ∀ (A : Around) (outer : List Env) (zs z : Z) (s : Shared) (xs : List Value), A.depth + n ≤ 900 → A.units + 20 * n ≤ 9000 → A.frames = some outer → A.handled = none → FrOK outer zs → RH g zs H z s → RepL z vs xs →
    codeAny (model g.prog g.w) A (.call f ⟨xs, []⟩) (fun r s' => match r with
      | .ok (.ret val) => ∃ z' H' v, Z.le z z' ∧ RH g zs H' z' s' ∧ Rep z' v val ∧ Q v H'
      | .ok _ => False
      | .error e => ∃ z' H' cls, Z.le z z' ∧ RH g zs H' z' s' ∧ Fly g zs H' z' s' e cls ∧ X cls H') s

section
variable {C : Cx} {σ : St} {zs z : Z} {s : Shared}

/-- the caller's own frame and cells, hidden -/
def hid (C : Cx) (zs : Z) (h : Heap) : Z := fun b => if b = C.env.locals ∨ b ∈ C.env.cells.map (·.2) then h.get? b else zs b
theorem hid_of {b : Addr} {o : Obj} (hR : R C zs σ z s) (h : zs b = some o) : hid C zs s.heap b = some o := by
  unfold hid
  split
  · rename_i e
    rcases e with e | e
    · subst e; rw [hR.locFree.2.1] at h; cases h
    · obtain ⟨p, hp, rfl⟩ := List.mem_map.mp e
      obtain ⟨⟨ov, oc, e1, e2⟩, _⟩ := hR.cellsOk p hp
      obtain ⟨sl, e3, e4⟩ := hR.rh.hzs _ _ h
      rw [e1] at e3
      have e5 : oc = { o with slots := sl } := Option.some.inj e3
      have e6 : o.data = .cell ov := by rw [e5] at e2; exact e2
      rw [e1, e5, e4 (fun vs e7 => by rw [e6] at e7; cases e7)]
  · exact h
theorem hid_none {b : Addr} (h1 : b ≠ C.env.locals) (h2 : b ∉ C.env.cells.map (·.2)) (h3 : zs b = none) {h : Heap} : hid C zs h b = none := by
  unfold hid; rw [if_neg (by rintro (e | e) <;> contradiction)]; exact h3
theorem R.hide (hR : R C zs σ z s) : RH C.g (hid C zs s.heap) σ.H z s where
  hz := hR.rh.hz
  hbase := hR.rh.hbase
  hzs b o h := by
    unfold hid at h
    split at h
    · exact ⟨o.slots, h, fun _ => rfl⟩
    · exact hR.rh.hzs b o h
  disj b o h := by
    unfold hid at h
    split at h
    · rename_i e
      rcases e with e | e
      · subst e; exact hR.locFree.1
      · obtain ⟨p, hp, rfl⟩ := List.mem_map.mp e
        exact (hR.cellsOk p hp).2.1
    · exact hR.rh.disj b o h
  hH p hp := by
    obtain ⟨a, b, c⟩ := hR.rh.hH p hp
    refine ⟨a, b, hid_none (fun e => hR.locFree.2.2 (e ▸ List.mem_map_of_mem (f := (·.1)) hp)) (fun e => ?_) c⟩
    obtain ⟨q, hq, e⟩ := List.mem_map.mp e
    exact (hR.cellsOk q hq).2.2.2.2 (e ▸ List.mem_map_of_mem (f := (·.1)) hp)
  nodup := hR.rh.nodup
  gens := hR.rh.gens
  os := hR.rh.os
theorem ns_slots {h h' : Heap} {L : Addr} {m : Str → Option Value} (n : h.Ns L m) (k : ∀ o, h.get? L = some o → ∃ sl, h'.get? L = some { o with slots := sl }) : h'.Ns L m := by
  obtain ⟨o, es, ep, a, b, c⟩ := n
  obtain ⟨sl, e⟩ := k o a
  exact ⟨_, es, ep, e, b, c⟩
theorem cell_slots {h h' : Heap} {c : Addr} {v : Option Value} (n : h.IsCell c v) (k : ∀ o, h.get? c = some o → ∃ sl, h'.get? c = some { o with slots := sl }) : h'.IsCell c v := by
  obtain ⟨o, a, b⟩ := n
  obtain ⟨sl, e⟩ := k o a
  exact ⟨_, e, b⟩
/-- back in the caller -/
theorem R.back (hR : R C zs σ z s) {H' : Led} {z' : Z} {s' : Shared} (l : Z.le z z') (r : RH C.g (hid C zs s.heap) H' z' s') : R C zs ⟨σ.loc, H'⟩ z' s' := by
  have own : ∀ b, (b = C.env.locals ∨ b ∈ C.env.cells.map (·.2)) → ∀ o, s.heap.get? b = some o → hid C zs s.heap b = some o := by
    intro b hb o ho
    unfold hid; rw [if_pos hb]; exact ho
  have keep : ∀ b, (b = C.env.locals ∨ b ∈ C.env.cells.map (·.2)) → ∀ o, s.heap.get? b = some o → ∃ sl, s'.heap.get? b = some { o with slots := sl } := fun b hb o ho => let ⟨sl, q, _⟩ := r.hzs b o (own b hb o ho); ⟨sl, q⟩
  have free : ∀ b, (b = C.env.locals ∨ b ∈ C.env.cells.map (·.2)) → ∀ o, s.heap.get? b = some o → z' b = none ∧ b ∉ H'.map (·.1) := by
    intro b hb o ho
    refine ⟨r.disj b o (own b hb o ho), fun e => ?_⟩
    obtain ⟨p, hp, rfl⟩ := List.mem_map.mp e
    have := (r.hH p hp).2.2
    rw [own _ hb o ho] at this; cases this
  obtain ⟨m, hn, hm⟩ := hR.ns
  have hL : ∃ o, s.heap.get? C.env.locals = some o := let ⟨o, _, _, a, _⟩ := hn; ⟨o, a⟩
  obtain ⟨oL, hL⟩ := hL
  refine ⟨⟨r.hz, r.hbase, fun b o h => r.hzs b o (hid_of hR h), fun b o h => r.disj b o (hid_of hR h), fun p hp => ?_, r.nodup, r.gens, r.os⟩, ⟨m, ns_slots hn (keep _ (.inl rfl)), fun x v a b => ?_⟩, fun x v a b => ?_, fun p hp => ?_, ?_, hR.fr⟩
  · obtain ⟨a, b, c⟩ := r.hH p hp
    refine ⟨a, b, ?_⟩
    cases e : zs p.1 with
    | none => rfl
    | some o => rw [hid_of hR e] at c; cases c
  · obtain ⟨val, p, q⟩ := hm x v a b
    exact ⟨val, p, q.mono l⟩
  · obtain ⟨c, val, p, q, w⟩ := hR.cells x v a b
    exact ⟨c, val, p, cell_slots q (keep c (.inr (List.mem_map_of_mem (f := (·.2)) (mem_of_lookup p)))), w.mono l⟩
  · obtain ⟨⟨ov, a⟩, _, c, d, _⟩ := hR.cellsOk p hp
    have hm' : p.2 = C.env.locals ∨ p.2 ∈ C.env.cells.map (·.2) := .inr (List.mem_map_of_mem (f := (·.2)) hp)
    obtain ⟨o, ho, _⟩ := id a
    obtain ⟨f1, f2⟩ := free _ hm' o ho
    exact ⟨⟨ov, cell_slots a (keep _ hm')⟩, f1, c, d, f2⟩
  · obtain ⟨f1, f2⟩ := free _ (.inl rfl) oL hL
    exact ⟨f1, hR.locFree.2.1, f2⟩

theorem CallV.fn {X : XP} {Q : V → St → Prop} {f : Value} {vs : List V} {n : Nat} (hn : n ≤ C.n) (hh : C.A.handled = none)
    (h : CallT C.g n f vs (fun v H' => Q v ⟨σ.loc, H'⟩) (fun cls H' => X cls ⟨σ.loc, H'⟩) σ.H) : CallV C f vs Q X σ := by
  intro z₀ xs r zs z s hz hR
  have hd := C.hdep
  have hu := C.hunits
  have hfr : ∃ fr, C.A.frames = some fr ∧ FrOK fr (hid C zs s.heap) := by
    have ho : FrOK C.outer (hid C zs s.heap) := ⟨fun e he => let ⟨a, L, o, b, c, d⟩ := hR.fr.ok e he; ⟨a, L, o, b, hid_of hR c, d⟩⟩
    rcases C.hframes with ⟨a, b⟩ | a
    · refine ⟨_, a, ⟨fun e he => ?_⟩⟩
      rcases List.mem_cons.mp he with rfl | he
      · obtain ⟨m, ⟨oL, es, ep, hL, hdt, _⟩, _⟩ := hR.ns
        refine ⟨by rw [C.hk]; decide, _, oL, b, ?_, fun vs => by rw [hdt]; intro e; cases e⟩
        unfold hid; rw [if_pos (.inl rfl)]; exact hL
      · exact ho.ok e he
    · exact ⟨_, a, ho⟩
  obtain ⟨fr, hfr1, hfr2⟩ := hfr
  refine wpAny_call (codeAny_mono (h C.A fr _ z s xs (by omega) (by omega) hfr1 hh hfr2 hR.hide (r.mono hz)) ?_)
  rintro res s' hres
  cases res with
  | ok fl => cases fl with
    | ret val =>
      obtain ⟨z', H', v, l, r', rv, q⟩ := hres
      exact ⟨z', _, l, hR.back l r', v, rv, q⟩
    | _ => exact hres
  | error e =>
    obtain ⟨z', H', cls, l, r', fl, x⟩ := hres
    exact absurd fl.no id
end

/-- the names of a call, bound -/
def bindV : List (Str × V) → List (Str × V) → List (Str × V)
  | [], l => l
  | (x, v) :: r, l => bindV r (setL l x v)

inductive RepB (z : Z) : List (Str × V) → List (Str × Value) → Prop
  | nil : RepB z [] []
  | cons {x : Str} {v : V} {val : Value} {l : List (Str × V)} {b : List (Str × Value)} (h : Rep z v val) (t : RepB z l b) : RepB z ((x, v) :: l) ((x, val) :: b)
theorem RepB.zip {z : Z} : ∀ (ns : List Str) {vs : List V} {xs : List Value}, RepL z vs xs → RepB z (ns.zip vs) (ns.zip xs)
  | [], _, _, _ => by simp; exact .nil
  | n :: ns, _, _, .nil => by simp; exact .nil
  | n :: ns, _, _, .cons h t => by simpa using RepB.cons h (RepB.zip ns t)

theorem bind_reps {z : Z} {kindOf : Str → Option NameKind} : ∀ {lv : List (Str × V)} {bs : List (Str × Value)}, RepB z lv bs → ∀ (loc : List (Str × V)) (m cm : Str → Option Value),
    (∀ x v, loc.lookup x = some v → kindOf x = some .local → ∃ val, m x = some val ∧ Rep z v val) → (∀ x v, loc.lookup x = some v → kindOf x ≠ some .local → ∃ val, cm x = some val ∧ Rep z v val) →
    (∀ x v, (bindV lv loc).lookup x = some v → kindOf x = some .local → ∃ val, bindL kindOf bs m x = some val ∧ Rep z v val) ∧
    (∀ x v, (bindV lv loc).lookup x = some v → kindOf x ≠ some .local → ∃ val, bindC kindOf bs cm x = some val ∧ Rep z v val)
  | _, _, .nil, loc, m, cm, h1, h2 => ⟨h1, h2⟩
  | _, _, .cons (x := y) (v := v) (val := val) r t, loc, m, cm, h1, h2 => by
    unfold bindV bindL bindC
    refine bind_reps t _ _ _ ?_ ?_
    · intro x w hx hk
      rw [lookup_setL] at hx
      by_cases e : x = y
      · subst e; rw [if_pos rfl] at hx; cases hx
        rw [if_pos hk]; exact ⟨val, by simp, r⟩
      · rw [if_neg e] at hx
        obtain ⟨u, p, q⟩ := h1 x w hx hk
        refine ⟨u, ?_, q⟩
        split
        · simp [e, p]
        · exact p
    · intro x w hx hk
      rw [lookup_setL] at hx
      by_cases e : x = y
      · subst e; rw [if_pos rfl] at hx; cases hx
        rw [if_neg hk]; exact ⟨val, by simp, r⟩
      · rw [if_neg e] at hx
        obtain ⟨u, p, q⟩ := h2 x w hx hk
        refine ⟨u, ?_, q⟩
        split
        · exact p
        · simp [e, p]

/-- a frame of a function whose table is `sc` -/
structure In (C : Cx) (g : Gd) (n : Nat) (sc : Scope) : Prop where
  g : C.g = g
  n : C.n = n
  kind : ∀ x, C.env.kindOf x = sc.names.lookup x
  cell : ∀ x, sc.names.lookup x = some .cell → ∃ c, C.env.cells.lookup x = some c
  calm : C.A.handled = none
  fn : C.env.scope = sc
  gl : C.env.globals = mainGlobals

/-- a plain def of the text -/
structure IsFn (g : Gd) (a : Addr) (fd : FuncData) (body : List Stmt) (sc : Scope) (params : List Str) : Prop where
  at_ : ∃ o, g.base.get? a = some o ∧ o.data = .func fd
  code : g.base.CodeRec fd.code fd.qualname
  body : fd.body = .stmts body
  closure : fd.closure = []
  scope : fd.scope = sc
  globals : fd.globals = mainGlobals
  builtins : fd.builtins = builtinsNs
  kind : sc.kind = .function
  co : sc.isCoroutine = false
  gen : sc.isGenerator = false
  bind : ∀ xs : List Value, xs.length = params.length → bindArgs fd ⟨xs, []⟩ = pure (params.zip xs)
  names : ∀ x ∈ params, sc.names.lookup x = some .local ∨ sc.names.lookup x = some .cell
  nodup : ((cellsFrom 0 sc.names []).map (·.1)).Nodup

theorem cellsFrom_keys : ∀ (l : List (Str × NameKind)) (n m : Nat) (acc acc' : List (Str × Addr)), acc.map (·.1) = acc'.map (·.1) → (cellsFrom n l acc).map (·.1) = (cellsFrom m l acc').map (·.1)
  | [], _, _, _, _, h => h
  | (x, k) :: r, n, m, acc, acc', h => by
    unfold cellsFrom
    split
    · exact cellsFrom_keys r _ _ _ _ (by simp [h])
    · exact cellsFrom_keys r _ _ _ _ h
theorem lookup_of_mem : ∀ {l : List (Str × Addr)} {p : Str × Addr}, (l.map (·.1)).Nodup → p ∈ l → l.lookup p.1 = some p.2
  | [], _, _, h => by cases h
  | (k, c) :: r, p, hn, h => by
    rw [List.map_cons, List.nodup_cons] at hn
    rw [List.lookup_cons]
    rcases List.mem_cons.mp h with e | h
    · subst e; simp
    · have : (p.1 == k) = false := beq_eq_false_iff_ne.mpr fun e => hn.1 (e ▸ List.mem_map_of_mem (f := (·.1)) h)
      rw [this]; exact lookup_of_mem hn.2 h

theorem zip_fst {α : Type} : ∀ {ns : List Str} {xs : List α} {p : Str × α}, p ∈ ns.zip xs → p.1 ∈ ns
  | [], _, _, h => by simp at h
  | _ :: _, [], _, h => by simp at h
  | n :: ns, x :: xs, p, h => by
    rw [List.zip_cons_cons] at h
    rcases List.mem_cons.mp h with e | h
    · subst e; exact List.mem_cons_self
    · exact List.mem_cons_of_mem _ (zip_fst h)

theorem CallT.def_ {g : Gd} {n : Nat} {a : Addr} {fd : FuncData} {body : List Stmt} {sc : Scope} {params : List Str} {vs : List V} {Q : V → Led → Prop} {X : XL} {H : Led} (F : IsFn g a fd body sc params) (hlen : vs.length = params.length)
    (h : ∀ C : Cx, In C g n sc → C.ro = [] → TSs C body (fun fl σ' => Q (match fl with | .ret v => v | _ => .none) σ'.H) (fun cls σ' => X cls σ'.H) ⟨bindV (params.zip vs) [], H⟩) : CallT g (n + 1) (.ref a) vs Q X H := by
  intro A outer zs z s xs hd hu hfr hh hfk rh rv
  obtain ⟨o, ho, hdata⟩ := F.at_
  have hb := rh.base
  refine codeAny_call_cells (o := o) (fd := fd) (body := body) (binds := params.zip xs) (by show A.depth < 1000; omega) (hb _ _ ho) hdata (g.lim.keeps hb) (F.code.keeps hb) F.body (F.bind xs (by rw [rv.length, hlen])) F.closure ?_ ?_
    (by rw [F.scope]; exact F.co) (by rw [F.scope]; exact F.gen) (by rw [F.scope]; exact F.kind)
  · intro x hx
    rw [F.scope]
    rcases F.names x.1 (zip_fst hx) with e | e
    · exact .inl e
    · exact .inr ⟨e, PySem.W.cellsFrom_some _ _ _ (.inl e)⟩
  · intro s₁ hin
    have henv : callEnvC fd s.heap.objs.size a = newEnv sc s.heap.objs.size mainGlobals (cellsFrom (s.heap.objs.size + 1) sc.names []) (fd.qualname ++ ".<locals>.") (some a) fd.code none builtinsNs := by
      unfold callEnvC; rw [F.scope, F.globals, F.builtins]
    rw [henv] at hin ⊢
    let C : Cx := {
      g := g, A := A.deeper (newEnv sc s.heap.objs.size mainGlobals (cellsFrom (s.heap.objs.size + 1) sc.names []) (fd.qualname ++ ".<locals>.") (some a) fd.code none builtinsNs)
      env := newEnv sc s.heap.objs.size mainGlobals (cellsFrom (s.heap.objs.size + 1) sc.names []) (fd.qualname ++ ".<locals>.") (some a) fd.code none builtinsNs
      outer := outer, n := n, hk := F.kind, hglob := rfl, hbuilt := rfl
      hdep := by show A.depth + 1 + n ≤ 900; omega
      hunits := by show A.units + 3 + 20 * n ≤ 9000; omega
      hframes := .inl ⟨by show (A.frames.map _) = _; rw [hfr]; rfl, rfl⟩
      apart := hin.apart }
    have hIn : In C g n sc := ⟨rfl, rfl, fun x => rfl, fun x hx => by
      have := PySem.W.cellsFrom_some (x := x) sc.names (s.heap.objs.size + 1) [] (.inl hx)
      exact Option.isSome_iff_exists.mp this, hh, rfl, rfl⟩
    have hnew : ∀ b, s.heap.objs.size ≤ b → z b = none ∧ zs b = none ∧ b ∉ H.map (·.1) := fun b hb => ⟨rh.fresh_z hb, rh.fresh_zs hb, rh.fresh_H hb⟩
    obtain ⟨hrepL, hrepC⟩ := bind_reps (kindOf := C.env.kindOf) (RepB.zip params rv) [] (fun _ => none) (fun _ => none) (fun x v e => by simp at e) (fun x v e => by simp at e)
    obtain ⟨h₁, tk, hs₁⟩ := hin.toInCall.same
    have hR : R C zs ⟨bindV (params.zip vs) [], H⟩ z s₁ := by
      refine ⟨?_, ⟨_, hin.toInCall.ns, fun x v e k => hrepL x v e k⟩, fun x v e k => ?_, fun p hp => ?_, ?_, hfk⟩
      · rw [hs₁]
        exact rh.grow fun b o e => by
          have := hin.toInCall.keep b o e
          rw [hs₁] at this; exact this
      · obtain ⟨val, e1, r⟩ := hrepC x v e (fun q => by rw [q] at k; cases k)
        have hk : sc.names.lookup x = some .cell ∨ sc.names.lookup x = some .free := by
          show sc.names.lookup x = _ ∨ _
          have : cellish (sc.names.lookup x) = true := k
          revert this
          cases sc.names.lookup x with
          | none => intro q; cases q
          | some kk => cases kk <;> intro q <;> first | exact .inl rfl | exact .inr rfl | cases q
        have hlk : (cellsFrom (s.heap.objs.size + 1) sc.names []).lookup x ≠ none := by
          rcases hk with hk | hk
          · have := PySem.W.cellsFrom_some (x := x) sc.names (s.heap.objs.size + 1) [] (.inl hk)
            intro q; rw [q] at this; cases this
          · exfalso
            -- a parameter is never free
            have key : ∀ (ps : List Str) (ws : List V) (loc : List (Str × V)), (∀ y ∈ ps, sc.names.lookup y = some .local ∨ sc.names.lookup y = some .cell) → (∀ y v, loc.lookup y = some v → sc.names.lookup y = some .local ∨ sc.names.lookup y = some .cell) →
                ∀ y v, (bindV (ps.zip ws) loc).lookup y = some v → sc.names.lookup y = some .local ∨ sc.names.lookup y = some .cell := by
              intro ps
              induction ps with
              | nil => intro ws loc _ h2 y v e; simp [bindV] at e; exact h2 y v e
              | cons p ps ih =>
                intro ws loc h1 h2 y v e
                cases ws with
                | nil => simp [bindV] at e; exact h2 y v e
                | cons w ws =>
                  rw [List.zip_cons_cons] at e
                  unfold bindV at e
                  refine ih ws _ (fun q hq => h1 q (List.mem_cons_of_mem _ hq)) (fun q u hu => ?_) y v e
                  rw [lookup_setL] at hu
                  by_cases eq : q = p
                  · subst eq; exact h1 _ List.mem_cons_self
                  · rw [if_neg eq] at hu; exact h2 q u hu
            rcases key params vs [] F.names (fun y v e => by simp at e) x v e with q | q <;> rw [q] at hk <;> cases hk
        obtain ⟨c, hc⟩ := Option.ne_none_iff_exists'.mp hlk
        refine ⟨c, val, hc, ?_, r⟩
        have := hin.cell x c hc
        rw [show bindC C.env.kindOf (params.zip xs) (fun _ => none) x = some val from e1] at this
        exact this
      · have hlt := hin.above p.1 p.2 hp
        obtain ⟨q1, q2, q3⟩ := hnew p.2 (Nat.le_of_lt hlt)
        have hlk : (cellsFrom (s.heap.objs.size + 1) sc.names []).lookup p.1 = some p.2 :=
          lookup_of_mem (by rw [cellsFrom_keys sc.names _ 0 [] [] rfl]; exact F.nodup) hp
        exact ⟨⟨_, hin.cell _ _ hlk⟩, q1, .inl q2, Nat.ne_of_gt hlt, q3⟩
      · obtain ⟨q1, q2, q3⟩ := hnew s.heap.objs.size (Nat.le_refl _)
        exact ⟨q1, q2, q3⟩
    refine wpAny_mono (h C hIn rfl z zs z s₁ (Z.le_refl _) hR) ?_ ?_
    · rintro fl s2 ⟨z2, σ2, l2, R2, f, rf, q⟩
      cases rf with
      | ret r => exact ⟨z2, _, _, l2, R2.rh, r, q⟩
      | next => exact ⟨z2, _, _, l2, R2.rh, .none, q⟩
      | brk => exact ⟨z2, _, _, l2, R2.rh, .none, q⟩
      | cont => exact ⟨z2, _, _, l2, R2.rh, .none, q⟩
    · rintro e s2 ⟨z2, σ2, cls, l2, R2, fl, x⟩
      exact absurd fl.no id
end PL

end
section
open PySem PySem.Calls PyProof.Rows
set_option Elab.async false
set_option linter.unusedVariables false
set_option linter.unusedSimpArgs false
namespace PL

theorem PX.absurd {C : Cx} {zs z : Z} {X : XP} {e : Value} {s : Shared} (h : PX C zs z X e s) {P : Prop} : P := let ⟨_, _, _, _, _, f, _⟩ := h; f.no.elim

section
variable {C : Cx} {zs z : Z} {σ : St} {s : Shared} {I : Addr} {o o' : Obj}

theorem put_le_of (hI : zs I = none) {b : Addr} {p : Obj} (h : zs b = some p) : zs.put I o b = some p := by
  unfold Z.put
  by_cases e : b = I
  · subst e; rw [hI] at h; cases h
  · rw [if_neg e]; exact h
theorem put_none {b : Addr} (h : zs.put I o b = none) : b ≠ I ∧ zs b = none := by
  unfold Z.put at h
  by_cases e : b = I
  · rw [if_pos e] at h; cases h
  · rw [if_neg e] at h; exact ⟨e, h⟩
theorem put_some {b : Addr} {p : Obj} (h : zs.put I o b = some p) (e : b ≠ I) : zs b = some p := by
  unfold Z.put at h; rw [if_neg e] at h; exact h
theorem FrOK.put {outer : List Env} (h : FrOK outer zs) (hI : zs I = none) : FrOK outer (zs.put I o) :=
  ⟨fun e he => let ⟨a, L, q, b, c, d⟩ := h.ok e he; ⟨a, L, q, b, put_le_of hI c, d⟩⟩

/-- the hidden object's own kind: no cell, no namespace -/
def Stays (o : Obj) : Prop := (∀ ov, o.data ≠ .cell ov) ∧ ∀ vs, o.data ≠ .dict vs
theorem Stays.fields {o : Obj} {fs : Array Value} (h : o.data = .fields fs) : Stays o := ⟨fun _ e => (by rw [h] at e; cases e), fun _ e => (by rw [h] at e; cases e)⟩
theorem Stays.list (items : List Value) (n : Nat) : Stays (lstO items n) := ⟨fun _ e => (by cases e), fun _ e => (by cases e)⟩

theorem RH.hidden {g : Gd} {H : Led} (r : RH g zs H z s) (h : zs I = some o) (hs : Stays o) : s.heap.get? I = some o := by
  obtain ⟨sl, e, k⟩ := r.hzs _ _ h
  rw [e, k hs.2]
theorem R.hideAt (hR : R C zs σ z s) (e : s.heap.get? I = some o) (h0 : z I = none) (q : Apart C zs σ I) : R C (zs.put I o) σ z s where
  rh := {
    hz := hR.rh.hz
    hbase := hR.rh.hbase
    hzs := fun b p h => by
      by_cases hb : b = I
      · subst hb; rw [put_self] at h; cases h; exact ⟨o.slots, e, fun _ => rfl⟩
      · exact hR.rh.hzs b p (put_some h hb)
    disj := fun b p h => by
      by_cases hb : b = I
      · subst hb; exact h0
      · exact hR.rh.disj b p (put_some h hb)
    hH := fun p hp => let ⟨a, b, c⟩ := hR.rh.hH p hp; ⟨a, b, put_ne (fun w => q.2.2.1 (w ▸ List.mem_map_of_mem (f := (·.1)) hp)) c⟩
    nodup := hR.rh.nodup
    gens := hR.rh.gens
    os := hR.rh.os }
  ns := hR.ns
  cells := hR.cells
  cellsOk p hp := let ⟨a, b, c, d⟩ := hR.cellsOk p hp; ⟨a, b, c.imp (put_ne (q.2.2.2 p hp)) id, d⟩
  locFree := ⟨hR.locFree.1, put_ne (Ne.symm q.2.1) hR.locFree.2.1, hR.locFree.2.2⟩
  fr := hR.fr.put q.1

theorem R.apartHid (hR : R C (zs.put I o) σ z s) (hI : zs I = none) (hs : Stays o) : z I = none ∧ Apart C zs σ I := by
  refine ⟨hR.rh.disj _ _ put_self, hI, ?_, ?_, ?_⟩
  · exact Ne.symm (put_none hR.locFree.2.1).1
  · intro h
    obtain ⟨p, hp, e⟩ := List.mem_map.mp h
    exact (put_none (hR.rh.hH p hp).2.2).1 e
  · intro p hp e
    obtain ⟨⟨ov, oc, e1, e2⟩, _⟩ := hR.cellsOk p hp
    have := hR.rh.hidden (I := I) put_self hs
    rw [← e, e1] at this
    cases this
    exact hs.1 ov e2

/-- the hidden object has changed, and new objects may stand behind -/
theorem R.iter (hR : R C (zs.put I o) σ z s) (hI : zs I = none) (hfr : FrOK C.outer zs) (hs : Stays o) {h' : Heap} {t : Nat} (k : Heap.ExtBut I s.heap h') (e : h'.get? I = some o') :
    R C (zs.put I o') σ z { s with heap := h', toks := t } := by
  obtain ⟨h0, q1, q2, q3, q4⟩ := hR.apartHid hI hs
  have ne : ∀ b p, z b = some p → b ≠ I := fun b p hb w => by rw [w, h0] at hb; cases hb
  refine ⟨⟨fun b p hb => k b p (ne b p hb) (hR.rh.hz b p hb), hR.rh.hbase, fun b p hb => ?_, fun b p hb => ?_, fun p hp => ?_, hR.rh.nodup, hR.rh.gens, hR.rh.os⟩, ?_, fun x v h1 h2 => ?_, fun p hp => ?_, ?_, hfr.put hI⟩
  · by_cases hb' : b = I
    · subst hb'; rw [put_self] at hb; cases hb; exact ⟨o'.slots, e, fun _ => rfl⟩
    · obtain ⟨sl, a, c⟩ := hR.rh.hzs b p (put_le_of hI (put_some hb hb'))
      exact ⟨sl, k _ _ hb' a, c⟩
  · by_cases hb' : b = I
    · subst hb'; exact h0
    · exact hR.rh.disj b p (put_le_of hI (put_some hb hb'))
  · obtain ⟨a, b, c⟩ := hR.rh.hH p hp
    obtain ⟨c1, c2⟩ := put_none c
    exact ⟨a.keep fun o ho => k _ _ c1 ho, b, put_ne c1 c2⟩
  · obtain ⟨m, ⟨ol, es, ep, a, b, c⟩, d⟩ := hR.ns
    exact ⟨m, ⟨ol, es, ep, k _ _ (Ne.symm q2) a, b, c⟩, d⟩
  · obtain ⟨c, val, a, ⟨oc, b1, b2⟩, d⟩ := hR.cells x v h1 h2
    exact ⟨c, val, a, ⟨oc, k _ _ (q4 _ (mem_of_lookup a)) b1, b2⟩, d⟩
  · obtain ⟨⟨ov, oc, b1, b2⟩, b, c, d⟩ := hR.cellsOk p hp
    exact ⟨⟨ov, oc, k _ _ (q4 p hp) b1, b2⟩, b, c.imp (fun c => put_ne (q4 p hp) (put_none c).2) id, d⟩
  · exact ⟨hR.locFree.1, put_ne (Ne.symm q2) (put_none hR.locFree.2.1).2, hR.locFree.2.2⟩
theorem R.unhide (hR : R C (zs.put I o) σ z s) (hI : zs I = none) (hfr : FrOK C.outer zs) (hs : Stays o) {h' : Heap} {t : Nat} (k : Heap.ExtBut I s.heap h') : R C zs σ z { s with heap := h', toks := t } := by
  obtain ⟨h0, q1, q2, q3, q4⟩ := hR.apartHid hI hs
  have ne : ∀ b p, z b = some p → b ≠ I := fun b p hb w => by rw [w, h0] at hb; cases hb
  have nes : ∀ b p, zs b = some p → b ≠ I := fun b p hb w => by rw [w, hI] at hb; cases hb
  refine ⟨⟨fun b p hb => k b p (ne b p hb) (hR.rh.hz b p hb), hR.rh.hbase, fun b p hb => ?_, fun b p hb => ?_, fun p hp => ?_, hR.rh.nodup, hR.rh.gens, hR.rh.os⟩, ?_, fun x v h1 h2 => ?_, fun p hp => ?_, ?_, hfr⟩
  · obtain ⟨sl, a, c⟩ := hR.rh.hzs b p (put_le_of hI hb)
    exact ⟨sl, k _ _ (nes b p hb) a, c⟩
  · exact hR.rh.disj b p (put_le_of hI hb)
  · obtain ⟨a, b, c⟩ := hR.rh.hH p hp
    obtain ⟨c1, c2⟩ := put_none c
    exact ⟨a.keep fun o ho => k _ _ c1 ho, b, c2⟩
  · obtain ⟨m, ⟨ol, es, ep, a, b, c⟩, d⟩ := hR.ns
    exact ⟨m, ⟨ol, es, ep, k _ _ (Ne.symm q2) a, b, c⟩, d⟩
  · obtain ⟨c, val, a, ⟨oc, b1, b2⟩, d⟩ := hR.cells x v h1 h2
    exact ⟨c, val, a, ⟨oc, k _ _ (q4 _ (mem_of_lookup a)) b1, b2⟩, d⟩
  · obtain ⟨⟨ov, oc, b1, b2⟩, b, c, d⟩ := hR.cellsOk p hp
    exact ⟨⟨ov, oc, k _ _ (q4 p hp) b1, b2⟩, b, c.imp (fun c => (put_none c).2) id, d⟩
  · exact ⟨hR.locFree.1, (put_none hR.locFree.2.1).2, hR.locFree.2.2⟩
end

/-! walking over something -/
def ownIters : List String := ["enumerate", "zip", "dict_itemiterator", "dict_reverseitemiterator", "odict_iterator", "itertools.zip_longest", "itertools.pairwise"]

structure WalkOf (g : Gd) (A : Around) (S : Z → Led → Prop) (vs : List V) (J : Nat → Obj → Prop) : Prop where
  fields : ∀ i o, J i o → ∃ fs, o.data = .fields fs
  cls : ∀ i o, J i o → ∃ T, o.cls = .type T ∧ ownIters.contains T = false
  self : ∀ (s : Shared) I o Q E, J 0 o → s.heap.get? I = some o → Q (.ref I) s → wpAny (model g.prog g.w) A (pyIter (.ref I)) Q E s
  item : ∀ zs z H (s : Shared) I o i v Q E, J i o → vs[i]? = some v → RH g zs H z s → S z H → s.heap.get? I = some o →
    (∀ h' t o' val, h'.get? I = some o' → J (i + 1) o' → Heap.SameBut I s.heap h' → Rep z v val → Q (some val) { s with heap := h', toks := t }) → wpAny (model g.prog g.w) A (pyNext (.ref I)) Q E s
  fin : ∀ zs z H (s : Shared) I o Q E, J vs.length o → RH g zs H z s → S z H → s.heap.get? I = some o →
    (∀ h', Heap.ExtBut I s.heap h' → Q none { s with heap := h' }) → wpAny (model g.prog g.w) A (pyNext (.ref I)) Q E s

structure Walk (C : Cx) (v : V) (vs : List V) (S : Led → Prop) : Prop where
  start : ∀ z₀ x, Rep z₀ v x → ∃ J, (∀ A', A'.handled = none → WalkOf C.g A' (fun z H => Z.le z₀ z ∧ S H) vs J) ∧ ∀ zs z σ (s : Shared) Q E, Z.le z₀ z → R C zs σ z s → S σ.H →
    (∀ o, J 0 o → o.isFreed = false → Q (.ref s.heap.objs.size) { s with heap := s.heap.push o }) → wpAny C.M C.A (pyIter x) Q E s

section
variable {C : Cx}
theorem Walk.str {l : List Nat} : Walk C (.txt false l) (l.map fun c => .txt false [c]) (fun _ => True) where
  start z₀ x r := by
    cases r with
    | str _ t =>
      have hget : ∀ {i : Nat} {v : V}, (l.map fun c => V.txt false [c])[i]? = some v → ∃ c, l[i]? = some c ∧ v = .txt false [c] := by
        intro i v h
        rw [List.getElem?_map] at h
        cases e : l[i]? with
        | none => rw [e] at h; cases h
        | some c => rw [e] at h; cases h; exact ⟨c, rfl, rfl⟩
      cases ha : (l.toArray).all (· < 128) with
      | true =>
        refine ⟨fun i o => o.cls = .type "str_ascii_iterator" ∧ o.data = .fields #[.str ⟨l.toArray⟩ t, .int (i : Int) 0], fun A' hA => ⟨fun i o h => ⟨_, h.2⟩, fun i o h => ⟨_, h.1, by decide⟩, ?_, ?_, ?_⟩, fun zs z σ s Q E hz hR _ q => ?_⟩
        · exact fun s I o Q E h e q => wpAny_pyIter_striter_ascii (x := ⟨l.toArray⟩) (t := t) (i := 0) ⟨o, e, h.1, h.2⟩ q
        · intro zs z H s I o i v Q E h hv rh st e' q
          obtain ⟨c, hc, rfl⟩ := hget hv
          refine wpAny_pyNext_ascii_item (x := ⟨l.toArray⟩) (t := t) (i := i) (c := c) ⟨o, e', h.1, h.2⟩ (by simpa using hc) fun h' hit hs => ?_
          obtain ⟨o', p1, p2, p3⟩ := hit
          exact q h' _ o' _ p1 ⟨p2, p3⟩ hs (.str [c] _)
        · intro zs z H s I o Q E h rh st e' q
          exact wpAny_pyNext_ascii_end hA (x := ⟨l.toArray⟩) (t := t) ⟨o, e', h.1, h.2⟩ (by simp) q
        · exact wpAny_pyIter_ascii (x := ⟨l.toArray⟩) ha (q _ ⟨rfl, rfl⟩ rfl)
      | false =>
        refine ⟨fun i o => o.cls = .type "str_iterator" ∧ o.data = .fields #[.str ⟨l.toArray⟩ t, .int (i : Int) 0], fun A' hA => ⟨fun i o h => ⟨_, h.2⟩, fun i o h => ⟨_, h.1, by decide⟩, ?_, ?_, ?_⟩, fun zs z σ s Q E hz hR _ q => ?_⟩
        · exact fun s I o Q E h e q => wpAny_pyIter_striter_wide (x := ⟨l.toArray⟩) (t := t) (i := 0) ⟨o, e, h.1, h.2⟩ q
        · intro zs z H s I o i v Q E h hv rh st e' q
          obtain ⟨c, hc, rfl⟩ := hget hv
          refine wpAny_pyNext_wide_item (x := ⟨l.toArray⟩) (t := t) (i := i) (c := c) ⟨o, e', h.1, h.2⟩ (by simpa using hc) fun h' hit hs => ?_
          obtain ⟨o', p1, p2, p3⟩ := hit
          exact q h' _ o' _ p1 ⟨p2, p3⟩ hs (.str [c] _)
        · intro zs z H s I o Q E h rh st e' q
          exact wpAny_pyNext_wide_end hA (x := ⟨l.toArray⟩) (t := t) ⟨o, e', h.1, h.2⟩ (by simp) q
        · exact wpAny_pyIter_wide (x := ⟨l.toArray⟩) ha (q _ ⟨rfl, rfl⟩ rfl)
theorem small_range {a b : Int} (h1 : -1152921504606846976 ≤ a) (h2 : a ≤ 1152921504606846976) (h3 : -1152921504606846976 ≤ b) (h4 : b ≤ 1152921504606846976) : Builtin.Range.small a b 1 = true := by
  have hp : (2 : Int) ^ 63 = 9223372036854775808 := by decide
  have hr : 0 ≤ Builtin.Range.rangeSize a b 1 ∧ Builtin.Range.rangeSize a b 1 ≤ 9223372036854775807 := by
    simp only [Builtin.Range.rangeSize, Int.ediv_one]
    repeat' split
    all_goals omega
  obtain ⟨r1, r2⟩ := hr
  have f : ∀ x : Int, -9223372036854775808 ≤ x → x < 9223372036854775808 → Builtin.Range.rangeFitsLong x = true := by
    intro x p q
    unfold Builtin.Range.rangeFitsLong
    rw [hp]; simp [p, q]
  unfold Builtin.Range.small
  rw [f a (by omega) (by omega), f b (by omega) (by omega), f 1 (by omega) (by omega), f _ (by omega) (by omega), if_pos (by decide), f (b + (1 - 1)) (by omega) (by omega)]
  simp
def upTo (a : Int) : Nat → List V
  | 0 => []
  | n + 1 => .int a :: upTo (a + 1) n
theorem upGet : ∀ (n : Nat) (a : Int) (i : Nat), (upTo a n)[i]? = if i < n then some (V.int (a + i)) else none
  | 0, a, i => by simp [upTo]
  | n + 1, a, 0 => by simp [upTo]
  | n + 1, a, i + 1 => by
    rw [upTo, List.getElem?_cons_succ, upGet n (a + 1) i]
    by_cases h : i < n
    · rw [if_pos h, if_pos (by omega)]; congr 2; push_cast; omega
    · rw [if_neg h, if_neg (by omega)]
theorem upLen : ∀ (n : Nat) (a : Int), (upTo a n).length = n
  | 0, _ => rfl
  | n + 1, a => by simp [upTo, upLen n]
theorem Walk.rng {a b : Int} (hsm : Builtin.Range.small a b 1 = true) : Walk C (.rng a b 1) (upTo a (b - a).toNat) (fun _ => True) where
  start z₀ x r := by
    cases r with
    | @rng _ _ _ ad t u v e =>
      have hsz : Builtin.Range.rangeSize a b 1 = ((b - a).toNat : Int) := by
        simp only [Builtin.Range.rangeSize]
        repeat' split
        all_goals first | omega | simp_all <;> omega
      refine ⟨fun i o => o = { cls := .type "range_iterator", dict := none, data := .fields #[rawInt (a + i), rawInt ((b - a).toNat - (i : Int)), rawInt 1], slots := #[] }, fun A' hA => ⟨fun i o h => ⟨#[rawInt (a + i), rawInt ((b - a).toNat - (i : Int)), rawInt 1], by rw [h]⟩, fun i o h => ⟨"range_iterator", by rw [h], by decide⟩, ?_, ?_, ?_⟩, fun zs z σ s Q E hz hR _ q => ?_⟩
      · intro s I o Q E h e q
        subst h
        exact wpAny_pyIter_rangeiter e q
      · intro zs z H s I o i v Q E h hv rh st e' q
        subst h
        rw [upGet] at hv
        split at hv
        · rename_i hi
          cases hv
          refine wpAny_pyNext_range_item e' (by omega) fun h' hit hs => ?_
          refine q h' _ _ _ hit ?_ hs (.int _ _)
          have e1 : a + ((i + 1 : Nat) : Int) = a + i + 1 := by push_cast; omega
          have e2 : ((b - a).toNat : Int) - ((i + 1 : Nat) : Int) = ((b - a).toNat - (i : Int)) - 1 := by push_cast; omega
          rw [e1, e2]
        · cases hv
      · intro zs z H s I o Q E h rh st e' q
        subst h
        rw [upLen] at e'
        exact wpAny_pyNext_range_end hA e' (by omega) q
      · refine wpAny_pyIter_range (hR.rh.hz _ _ (hz _ _ e)) hsm (q _ ?_ rfl)
        rw [hsz]; simp [rawInt]
end
end PL

end
section
open PySem PySem.Calls PyProof.Rows
set_option Elab.async false
set_option linter.unusedVariables false
set_option linter.unusedSimpArgs false
namespace PL

def Lo (L L' : List (Str × V)) : Prop := ∀ x v, L.lookup x = some v → L'.lookup x = some v
structure Le (σ σ' : St) : Prop where
  loc : Lo σ.loc σ'.loc
  led : σ.H.Sublist σ'.H
theorem Lo.refl (L : List (Str × V)) : Lo L L := fun _ _ h => h
theorem Lo.set {L L' : List (Str × V)} {x : Str} {v : V} (h : Lo L L') : Lo (PL.setL L x v) (PL.setL L' x v) := by
  intro y u e
  rw [lookup_setL] at e ⊢
  by_cases k : y = x
  · rw [if_pos k] at e ⊢; exact e
  · rw [if_neg k] at e ⊢; exact h y u e
theorem Le.refl (σ : St) : Le σ σ := ⟨Lo.refl _, List.Sublist.refl _⟩
theorem TSs.le {C : Cx} {X : XP} {st : List Stmt} {Q : Fl → St → Prop} {σ σ' : St} (k : Le σ' σ) (h : TSs C st Q X σ') : TSs C st Q X σ := h.weaken k.loc k.led
theorem TB.le {C : Cx} {X : XP} {e : Expr} {Q : Bool → St → Prop} {σ σ' : St} (k : Le σ' σ) (h : TB C e Q X σ') : TB C e Q X σ := fun z₀ => (h z₀).weaken k.loc k.led

/-- a target takes a value -/
def TAs (C : Cx) (target : Expr) (v : V) (Q : St → Prop) (X : XP) (σ : St) : Prop := ∀ z₀ x, Rep z₀ v x → TT C z₀ (assign target C.env x) (fun _ _ σ' => Q σ') X σ
theorem TAs.name {C : Cx} {X : XP} {x : Str} {p : Pos} {v : V} {Q : St → Prop} {σ : St} (k : Stores C x) (h : Q ⟨setL σ.loc x v, σ.H⟩) : TAs C (.Name x p) v Q X σ := by
  intro z₀ val r
  rw [PySem.assign_Name]
  exact TT.at_ (TT.store k r fun _ _ => h)

theorem letOwned {M : Model} {A : Around} {E : Value → Shared → Prop} {target : Expr} {I : Addr} {v : Value} {s : Shared} {o : Obj} {Q : Unit → Shared → Prop} (e : s.heap.get? I = some o) (hc : ∃ T, o.cls = .type T ∧ ownIters.contains T = false) (h : Q () s) :
    wpAny M A (letOwnedTupleGo target (.ref I) v) Q E s := by
  obtain ⟨T, hT, hn⟩ := hc
  have go : ∀ a : Addr, wpAny M A (do
      let o ← load I
      match o.cls, o.data with
      | .type n, .fields vs =>
        if ["enumerate", "zip", "dict_itemiterator", "dict_reverseitemiterator", "odict_iterator", "itertools.zip_longest", "itertools.pairwise"].contains n && vs[0]? == some (rawInt a) then
          rule "for.unpacks-the-owned-tuple"
          updateField I 0 .none
      | _, _ => pure ()) Q E s := by
    intro a
    refine wpAny_bind (wpAny_load e ?_)
    rw [hT]
    split
    · rename_i n vs h1 h2
      cases h1
      have : (["enumerate", "zip", "dict_itemiterator", "dict_reverseitemiterator", "odict_iterator", "itertools.zip_longest", "itertools.pairwise"].contains T && vs[0]? == some (rawInt a)) = false := by
        rw [show ["enumerate", "zip", "dict_itemiterator", "dict_reverseitemiterator", "odict_iterator", "itertools.zip_longest", "itertools.pairwise"].contains T = false from hn]; rfl
      rw [this]
      exact wpAny_pure h
    · exact wpAny_pure h
  unfold letOwnedTupleGo
  split
  · cases v with
    | ref a => exact go a
    | _ => exact wpAny_pure h
  · cases v with
    | ref a => exact go a
    | _ => exact wpAny_pure h
  · exact wpAny_pure h

section
variable {C : Cx} {X : XP} {σ : St}

theorem TS.for_ {target iter : Expr} {body orelse : List Stmt} {pos : Pos} {Q : Fl → St → Prop} (hh : C.A.handled = none)
    (h : TE C iter (fun v σ1 => ∃ vs S, Walk C v vs S ∧ ∃ Inv : Nat → St → Prop, Inv 0 σ1 ∧ (∀ i σ, Inv i σ → S σ.H) ∧
      (∀ i u σ, vs[i]? = some u → Inv i σ → TAs C target u (fun σ' => TSs C body (fun f σ'' => match f with | .next => Inv (i + 1) σ'' | .cont => Inv (i + 1) σ'' | .brk => Q .next σ'' | .ret w => Q (.ret w) σ'') X σ') X σ) ∧
      (∀ σ, Inv vs.length σ → TSs C orelse Q X σ)) X σ)
    (hs : ∀ x, foldedSetIterable iter C.env x = pure x := by intro _; rfl) : TS C (.For target iter body orelse pos) Q X σ := by
  intro z₀ zs z s hz hR
  refine wpAny_For ?_ hs
  refine wpAny_mono (h z₀ zs z s hz hR) ?_ fun _ _ x => x
  rintro x s1 ⟨z1, σ1, l1, R1, v, rv, vs, S, W, Inv, i0, iS, turn, fin⟩
  obtain ⟨J, WO, st⟩ := W.start z1 x rv
  have WO := WO C.A hh
  refine st zs z1 σ1 s1 _ _ (Z.le_refl _) R1 (iS _ _ i0) fun o hJ hfr => ?_
  generalize hI : s1.heap.objs.size = I
  have zsI : zs I = none := R1.rh.fresh_zs (Nat.le_of_eq hI)
  have R2 : R C (zs.put I o) σ1 z1 { s1 with heap := s1.heap.push o } := by
    refine (R1.push' o).hideAt ?_ (R1.rh.fresh_z (Nat.le_of_eq hI)) (R1.apart_new (Nat.le_of_eq hI))
    rw [← hI]; exact Heap.get?_push_size _ hfr
  refine codeAny_loop' rfl (fun n s' => ∃ i σ' z' o, n = vs.length - i ∧ i ≤ vs.length ∧ Z.le z1 z' ∧ R C (zs.put I o) σ' z' s' ∧ J i o ∧ Inv i σ') (fun n s' hi => ?_) vs.length ⟨0, σ1, z1, o, rfl, Nat.zero_le _, Z.le_refl _, R2, hJ, i0⟩
  obtain ⟨i, σ', z', o', hn, hile, lz, R', hJ', inv⟩ := hi
  obtain ⟨fs, hfs⟩ := WO.fields _ _ hJ'
  have stay := Stays.fields hfs
  have hat := R'.rh.hidden put_self stay
  show wpAny _ _ ((forTurn target (.ref I) body orelse C.env).onRaise (fun x => do noteFrame x C.env; theTreesLotGoes x)) _ _ s'
  refine wpAny_noted ?_
  simp only [forTurn]
  refine wpAny_bind (wpAny_standAt (wpAny_bind (wpAny_onRaise ?_)))
  rcases Nat.lt_or_ge i vs.length with hlt | hge
  · have hv : vs[i]? = some vs[i] := List.getElem?_eq_getElem hlt
    refine WO.item _ _ _ s' I o' i vs[i] _ _ hJ' hv R'.rh ⟨lz, iS _ _ inv⟩ hat fun h' t o'' val e1 hJ'' hsb rv' => ?_
    have R'' : R C (zs.put I o'') σ' z' { s' with heap := h', toks := t } := R'.iter zsI hR.fr stay hsb.extBut e1
    refine wpAny_bind (letOwned e1 (WO.cls _ _ hJ'') ?_)
    refine wpAny_bind (wpAny_mono (turn i _ σ' hv inv z' val rv' _ _ _ (Z.le_refl _) R'') ?_ fun _ _ x => x.absurd)
    rintro ⟨⟩ s3 ⟨z3, σ3, l3, R3, k3⟩
    refine wpAny_bind (wpAny_mono (k3 z3 _ _ _ (Z.le_refl _) R3) ?_ fun _ _ x => x.absurd)
    rintro f s4 ⟨z4, σ4, l4, R4, fl, rf, k4⟩
    have lz' := Z.le_trans (Z.le_trans lz l3) l4
    obtain ⟨fs', hfs'⟩ := WO.fields _ _ hJ''
    have again : Inv (i + 1) σ4 → ∃ m, m < n ∧ ∃ i σ' z' o, m = vs.length - i ∧ i ≤ vs.length ∧ Z.le z1 z' ∧ R C (zs.put I o) σ' z' s4 ∧ J i o ∧ Inv i σ' :=
      fun k4 => ⟨vs.length - (i + 1), by omega, i + 1, σ4, z4, o'', rfl, by omega, lz', R4, hJ'', k4⟩
    have out := R4.unhide zsI hR.fr (Stays.fields hfs') (t := s4.toks) (h' := s4.heap) fun b o _ e => e
    cases rf with
    | next => exact wpAny_pure (.inl ⟨rfl, again k4⟩)
    | cont => exact wpAny_pure (.inl ⟨rfl, again k4⟩)
    | brk => exact wpAny_pure ⟨z4, σ4, Z.le_trans l1 lz', out, .next, .next, k4⟩
    | ret rw' => exact wpAny_pure ⟨z4, σ4, Z.le_trans l1 lz', out, .ret _, .ret rw', k4⟩
  · have he : i = vs.length := by omega
    subst he
    refine WO.fin _ _ _ s' I o' _ _ hJ' R'.rh ⟨lz, iS _ _ inv⟩ hat fun h' hx => ?_
    refine wpAny_pure (.inr ⟨rfl, codeAny_block ?_⟩)
    have R'' : R C zs σ' z' { s' with heap := h' } := R'.unhide zsI hR.fr stay hx
    refine wpAny_mono (fin σ' inv z' zs z' _ (Z.le_refl _) R'') ?_ fun _ _ x => x.absurd
    rintro f s4 ⟨z4, σ4, l4, R4, q⟩
    exact ⟨z4, σ4, Z.le_trans l1 (Z.le_trans lz l4), R4, q⟩

theorem TS.while_ {test : Expr} {body orelse : List Stmt} {pos : Pos} {Q : Fl → St → Prop} (Inv : Nat → St → Prop) (n : Nat) (i0 : Inv n σ)
    (turn : ∀ n σ, Inv n σ → TB C test (fun b σ' => if b then TSs C body (fun f σ'' => match f with | .next => ∃ m, m < n ∧ Inv m σ'' | .cont => ∃ m, m < n ∧ Inv m σ'' | .brk => Q .next σ'' | .ret w => Q (.ret w) σ'') X σ' else TSs C orelse Q X σ') X σ) :
    TS C (.While test body orelse pos) Q X σ := by
  intro z₀ zs z s hz hR
  refine wpAny_While ?_
  refine codeAny_whileLoop (fun n s' => ∃ σ' z', Z.le z z' ∧ R C zs σ' z' s' ∧ Inv n σ') (fun n s' hi => ?_) n ⟨σ, z, Z.le_refl _, hR, i0⟩
  obtain ⟨σ', z', lz, R', inv⟩ := hi
  refine wpAny_mono (turn n σ' inv z' zs z' s' (Z.le_refl _) R') ?_ fun _ _ x => x.absurd
  rintro b s2 ⟨z2, σ2, l2, R2, k⟩
  cases b with
  | true =>
    refine wpAny_mono (k z2 zs z2 s2 (Z.le_refl _) R2) ?_ fun _ _ x => x.absurd
    rintro f s4 ⟨z4, σ4, l4, R4, fl, rf, k4⟩
    have lz' := Z.le_trans (Z.le_trans lz l2) l4
    cases rf with
    | next => obtain ⟨m, hm, i⟩ := k4; exact ⟨m, hm, σ4, z4, lz', R4, i⟩
    | cont => obtain ⟨m, hm, i⟩ := k4; exact ⟨m, hm, σ4, z4, lz', R4, i⟩
    | brk => exact ⟨z4, σ4, lz', R4, .next, .next, k4⟩
    | ret rw' => exact ⟨z4, σ4, lz', R4, .ret _, .ret rw', k4⟩
  | false =>
    refine wpAny_mono (k z2 zs z2 s2 (Z.le_refl _) R2) ?_ fun _ _ x => x.absurd
    rintro f s4 ⟨z4, σ4, l4, R4, q⟩
    exact ⟨z4, σ4, Z.le_trans (Z.le_trans lz l2) l4, R4, q⟩
end
end PL

end
section
open PySem PySem.Calls PyProof.Rows
set_option Elab.async false
set_option linter.unusedVariables false
set_option linter.unusedSimpArgs false
namespace PL

def relabelS (scope sc : Scope) : Scope :=
  { scope with names := scope.names.map fun (n, k) => if (k == .free && sc.kind == .function && sc.names.lookup n == some .cell) then (n, .cell) else (n, k) }
theorem relabel_eq {scope sc : Scope} {env : Env} (h : env.scope = sc) : relabel scope env = relabelS scope sc := by subst h; rfl

/-- the cells that a comprehension takes over -/
def closOf : List (Str × NameKind) → List (Str × Addr) → List (Str × Addr) → List (Str × Addr)
  | [], _, acc => acc
  | (n, k) :: r, cells, acc => closOf r cells (if k == .free then (n, (cells.lookup n).getD 0) :: acc else acc)
theorem closureFor_closOf {scope : Scope} {env : Env} (h : ∀ x ∈ scope.names, x.2 = .free → ∃ c, env.cells.lookup x.1 = some c) : closureFor scope env = pure (closOf scope.names env.cells []) := by
  unfold closureFor
  have key : ∀ (l : List (Str × NameKind)) (acc : List (Str × Addr)), (∀ x ∈ l, x.2 = .free → ∃ c, env.cells.lookup x.1 = some c) →
      (forIn l acc fun x r => match x with | (name, kind) => if kind == .free then do let a ← cellOf env name; pure (ForInStep.yield ((name, a) :: r)) else pure (ForInStep.yield r) : Sem _) = pure (closOf l env.cells acc) := by
    intro l
    induction l with
    | nil => intro acc _; rfl
    | cons y r ih =>
      intro acc hl
      obtain ⟨n, k⟩ := y
      rw [List.forIn_cons]
      cases hk : (k == NameKind.free) with
      | true =>
        obtain ⟨c, hc⟩ := hl (n, k) List.mem_cons_self (by simpa using hk)
        have : cellOf env n = pure c := by unfold cellOf; rw [hc]
        simp only [hk, if_true, this, pure_bind]
        rw [ih _ fun x hx => hl x (List.mem_cons_of_mem _ hx)]
        simp [closOf, hk, hc]
      | false =>
        simp only [hk, Bool.false_eq_true, if_false, pure_bind]
        rw [ih _ fun x hx => hl x (List.mem_cons_of_mem _ hx)]
        simp [closOf, hk]
  have := key scope.names [] h
  simp only [bind_pure]
  exact this
theorem closOf_mem : ∀ (l : List (Str × NameKind)) (cells acc : List (Str × Addr)) (p : Str × Addr), p ∈ closOf l cells acc → p ∈ acc ∨ ((p.1, NameKind.free) ∈ l ∧ p.2 = (cells.lookup p.1).getD 0)
  | [], _, _, _, h => .inl h
  | (n, k) :: r, cells, acc, p, h => by
    unfold closOf at h
    rcases closOf_mem r cells _ p h with q | ⟨h1, h2⟩
    · cases hk : (k == NameKind.free) with
      | true =>
        rw [hk, if_pos rfl] at q
        have hk : k = .free := by simpa using hk
        subst hk
        rcases List.mem_cons.mp q with q | q
        · subst q; exact .inr ⟨List.mem_cons_self, rfl⟩
        · exact .inl q
      | false =>
        rw [hk, if_neg (by decide)] at q
        exact .inl q
    · exact .inr ⟨List.mem_cons_of_mem _ h1, h2⟩
theorem closOf_keep : ∀ (l : List (Str × NameKind)) (cells acc : List (Str × Addr)) (x : Str) (c : Addr), acc.lookup x = some c → x ∉ l.map (·.1) → (closOf l cells acc).lookup x = some c
  | [], _, _, _, _, h, _ => h
  | (n, k) :: r, cells, acc, x, c, h, hn => by
    rw [List.map_cons, List.mem_cons, not_or] at hn
    unfold closOf
    refine closOf_keep r cells _ x c ?_ hn.2
    split
    · rw [List.lookup_cons, beq_eq_false_iff_ne.mpr hn.1]; exact h
    · exact h
theorem closOf_lookup : ∀ (l : List (Str × NameKind)) (cells acc : List (Str × Addr)) (x : Str) (c : Addr), (l.map (·.1)).Nodup → (x, NameKind.free) ∈ l → cells.lookup x = some c → (closOf l cells acc).lookup x = some c
  | [], _, _, _, _, _, h, _ => by cases h
  | (n, k) :: r, cells, acc, x, c, hn, h, hc => by
    rw [List.map_cons, List.nodup_cons] at hn
    unfold closOf
    rcases List.mem_cons.mp h with h | h
    · cases h
      refine closOf_keep r cells _ _ c ?_ hn.1
      simp [hc]
    · exact closOf_lookup r cells _ x c hn.2 h hc
theorem closOf_pair : ∀ (l : List (Str × NameKind)) (cells acc : List (Str × Addr)), (l.map (·.1)).Nodup → acc.Pairwise (fun x y => x.1 ≠ y.1) → (∀ p ∈ acc, p.1 ∉ l.map (·.1)) → (closOf l cells acc).Pairwise (fun x y => x.1 ≠ y.1)
  | [], _, _, _, h, _ => h
  | (n, k) :: r, cells, acc, hn, h, hd => by
    rw [List.map_cons, List.nodup_cons] at hn
    unfold closOf
    refine closOf_pair r cells _ hn.2 ?_ ?_
    · split
      · refine List.pairwise_cons.mpr ⟨fun p hp e => hd p hp ?_, h⟩
        rw [List.map_cons, ← e]; exact List.mem_cons_self
      · exact h
    · intro p hp
      split at hp
      · rcases List.mem_cons.mp hp with e | hp
        · subst e; exact hn.1
        · exact fun q => hd p hp (by rw [List.map_cons]; exact List.mem_cons_of_mem _ q)
      · exact fun q => hd p hp (by rw [List.map_cons]; exact List.mem_cons_of_mem _ q)

section
variable {C : Cx} {zs z : Z} {σ : St} {s : Shared} {I : Addr} {o o' : Obj}
theorem RH.hideAt {g : Gd} {H : Led} (r : RH g zs H z s) (e : s.heap.get? I = some o) (h0 : z I = none) (h1 : zs I = none) (h2 : I ∉ H.map (·.1)) : RH g (zs.put I o) H z s where
  hz := r.hz
  hbase := r.hbase
  hzs b p h := by
    by_cases hb : b = I
    · subst hb; rw [put_self] at h; cases h; exact ⟨o.slots, e, fun _ => rfl⟩
    · exact r.hzs b p (put_some h hb)
  disj b p h := by
    by_cases hb : b = I
    · subst hb; exact h0
    · exact r.disj b p (put_some h hb)
  hH p hp := let ⟨a, b, c⟩ := r.hH p hp; ⟨a, b, put_ne (fun w => h2 (w ▸ List.mem_map_of_mem (f := (·.1)) hp)) c⟩
  nodup := r.nodup
  gens := r.gens
  os := r.os
theorem RH.unhide {g : Gd} {H : Led} (r : RH g (zs.put I o) H z s) (h1 : zs I = none) : RH g zs H z s where
  hz := r.hz
  hbase := r.hbase
  hzs b p h := r.hzs b p (put_le_of h1 h)
  disj b p h := r.disj b p (put_le_of h1 h)
  hH p hp := let ⟨a, b, c⟩ := r.hH p hp; ⟨a, b, (put_none c).2⟩
  nodup := r.nodup
  gens := r.gens
  os := r.os
/-- a part of the heap of which nothing is told changes -/
theorem RH.free {g : Gd} {H : Led} (r : RH g zs H z s) {h' : Heap} {t : Nat} (k : Heap.ExtBut I s.heap h') (h0 : z I = none) (h1 : zs I = none) (h2 : I ∉ H.map (·.1)) : RH g zs H z { s with heap := h', toks := t } where
  hz b p e := k b p (fun w => by rw [w, h0] at e; cases e) (r.hz b p e)
  hbase := r.hbase
  hzs b p e := let ⟨sl, a, c⟩ := r.hzs b p e; ⟨sl, k b _ (fun w => by rw [w, h1] at e; cases e) a, c⟩
  disj := r.disj
  hH p hp := let ⟨a, b⟩ := r.hH p hp; ⟨a.keep fun o ho => k _ _ (fun w => h2 (w ▸ List.mem_map_of_mem (f := (·.1)) hp)) ho, b⟩
  nodup := r.nodup
  gens := r.gens
  os := r.os
theorem Z.put_comm {a b : Addr} (h : a ≠ b) (p q : Obj) : (zs.put a p).put b q = (zs.put b q).put a p := by
  funext c
  unfold Z.put
  by_cases h1 : c = b
  · subst h1; rw [if_pos rfl, if_neg (Ne.symm h), if_pos rfl]
  · rw [if_neg h1]
    by_cases h2 : c = a
    · rw [if_pos h2, if_pos h2]
    · rw [if_neg h2, if_neg h2, if_neg h1]

theorem R.frames (hR : R C zs σ z s) : ∃ fr, C.A.frames = some fr ∧ ∀ h : Heap, (∀ b o, s.heap.get? b = some o → h.get? b = some o) → FrOK fr (hid C zs h) := by
  have ho : ∀ h : Heap, (∀ b o, s.heap.get? b = some o → h.get? b = some o) → FrOK C.outer (hid C zs h) := by
    intro h hk
    refine ⟨fun e he => ?_⟩
    obtain ⟨a, L, o, b, c, d⟩ := hR.fr.ok e he
    have c' := hid_of hR c
    refine ⟨a, L, o, b, ?_, d⟩
    unfold hid at c' ⊢
    split at c'
    · rename_i hc; rw [if_pos hc]; exact hk _ _ c'
    · rename_i hc; rw [if_neg hc]; exact c'
  rcases C.hframes with ⟨a, b⟩ | a
  · refine ⟨_, a, fun h hk => ⟨fun e he => ?_⟩⟩
    rcases List.mem_cons.mp he with rfl | he
    · obtain ⟨m, ⟨oL, es, ep, hL, hdt, _⟩, _⟩ := hR.ns
      refine ⟨by rw [C.hk]; decide, _, oL, b, ?_, fun vs => by rw [hdt]; intro e; cases e⟩
      unfold hid; rw [if_pos (.inl rfl)]; exact hk _ _ hL
    · exact (ho h hk).ok e he
  · exact ⟨_, a, ho⟩
end

def TIfs (C : Cx) (ifs : List Expr) (Q : Bool → St → Prop) (X : XP) (σ : St) : Prop := ∀ z₀, TT C z₀ (forIn ifs true fun c r => if r = true then do let ok ← isTrue c C.env (eval c C.env); pure (ForInStep.yield ok) else pure (ForInStep.yield r)) (fun _ b σ' => Q b σ') X σ
theorem TIfs.nil {C : Cx} {X : XP} {σ : St} {Q : Bool → St → Prop} (h : Q true σ) : TIfs C [] Q X σ := fun z₀ => TT.pure fun _ _ => h
/-- what one turn of a list comprehension adds -/
def CTurn (C : Cx) (target : Expr) (ifs : List Expr) (elt : Expr) (u : V) (out : Option V) (X : XP) (σ : St) : Prop :=
  TAs C target u (fun σ1 => TIfs C ifs (fun ok σ2 => if ok then TE C elt (fun v σ3 => out = some v ∧ Le σ σ3) X σ2 else out = none ∧ Le σ σ2) X σ1) X σ

def addO (l : List V) : Option V → List V
  | none => l
  | some v => l ++ [v]

structure CompOK (scope sc : Scope) : Prop where
  kind : scope.kind = .function
  nocell : ∀ x ∈ scope.names, x.2 ≠ .cell
  nodup : (scope.names.map (·.1)).Nodup
  free : ∀ x ∈ scope.names, x.2 = .free → sc.names.lookup x.1 = some .cell
  out : sc.kind = .function

theorem lookup_of_nodup {α β : Type} [BEq α] [LawfulBEq α] : ∀ {l : List (α × β)} {p : α × β}, (l.map (·.1)).Nodup → p ∈ l → l.lookup p.1 = some p.2
  | [], _, _, h => by cases h
  | (k, c) :: r, p, hn, h => by
    rw [List.map_cons, List.nodup_cons] at hn
    rw [List.lookup_cons]
    rcases List.mem_cons.mp h with e | h
    · subst e; simp
    · have : (p.1 == k) = false := beq_eq_false_iff_ne.mpr fun e => hn.1 (e ▸ List.mem_map_of_mem (f := (·.1)) h)
      rw [this]; exact lookup_of_nodup hn.2 h
theorem mem_of_lookup' {α β : Type} [BEq α] [LawfulBEq α] : ∀ {l : List (α × β)} {x : α} {b : β}, l.lookup x = some b → (x, b) ∈ l
  | [], _, _, h => by cases h
  | (k, c) :: r, x, b, h => by
    rw [List.lookup_cons] at h
    cases e : (x == k) with
    | true => rw [e] at h; cases h; rw [eq_of_beq e]; exact List.mem_cons_self
    | false => rw [e] at h; exact List.mem_cons_of_mem _ (mem_of_lookup' h)
theorem relabel_keys (scope sc : Scope) : (relabelS scope sc).names.map (·.1) = scope.names.map (·.1) := by
  unfold relabelS
  simp only [List.map_map]
  refine List.map_congr_left fun x _ => ?_
  obtain ⟨n, k⟩ := x
  simp only [Function.comp]
  split <;> rfl
theorem relabel_cell {scope sc : Scope} (K : CompOK scope sc) {x : Str} (h : (relabelS scope sc).names.lookup x = some .cell) : (x, NameKind.free) ∈ scope.names := by
  have := mem_of_lookup' h
  unfold relabelS at this
  obtain ⟨⟨n, k⟩, hp, e⟩ := List.mem_map.mp this
  simp only at e
  split at e
  · rename_i hc
    cases e
    simp only [Bool.and_eq_true, beq_iff_eq] at hc
    rw [← hc.1.1]; exact hp
  · cases e
    exact absurd rfl (K.nocell _ hp)
end PL

end
section
open PySem PySem.Calls PyProof.Rows
set_option Elab.async false
set_option linter.unusedVariables false
set_option linter.unusedSimpArgs false
namespace PL

theorem relabel_free {scope sc : Scope} (K : CompOK scope sc) {x : Str} (h : (x, NameKind.free) ∈ scope.names) : (relabelS scope sc).names.lookup x = some .cell := by
  have hm : (x, NameKind.cell) ∈ (relabelS scope sc).names := by
    unfold relabelS
    refine List.mem_map.mpr ⟨(x, .free), h, ?_⟩
    simp [K.out, K.free _ h rfl]
  exact lookup_of_nodup (p := (x, NameKind.cell)) (by rw [relabel_keys]; exact K.nodup) hm

theorem filterMap_take {α : Type} (f : α → Option V) (xs : List α) (i : Nat) (x : α) (h : xs[i]? = some x) : (xs.take (i + 1)).filterMap f = addO ((xs.take i).filterMap f) (f x) := by
  rw [List.take_add_one, h, List.filterMap_append]
  cases e : f x <;> simp [addO, e]

section
variable {C : Cx} {X : XP} {σ : St}

theorem TT.listcomp {g : Gd} {n : Nat} {sc scope : Scope} {elt target iter : Expr} {ifs : List Expr} {pos : Pos} {z₀ : Z} {Q : Z → Value → St → Prop} (hIn : In C g n sc) (K : CompOK scope sc)
    (h : TE C iter (fun v σ1 => ∃ (α : Type) (xs : List α) (φ : α → V) (f : α → Option V) (L : List (Str × V)) (H0 : Led) (S : Led → Prop),
      Walk C v (xs.map φ) S ∧ (∀ H', H0.Sublist H' → S H') ∧ H0.Sublist σ1.H ∧ (∀ x u, L.lookup x = some u → σ1.loc.lookup x = some u ∧ (x, NameKind.free) ∈ scope.names) ∧ xs.length ≤ 16777216 ∧
      (∀ C', In C' g n (relabelS scope sc) → ∀ x ∈ xs, CTurn C' target ifs elt (φ x) (f x) X ⟨L, H0⟩) ∧
      (∀ zs' z' s' a items k, R C zs' ⟨σ1.loc, H0⟩ z' s' → s'.heap.get? a = some (lstO items k) → z' a = none → Apart C zs' ⟨σ1.loc, H0⟩ a → RepL z' (xs.filterMap f) items →
        ∃ z'' σ'', Z.le z' z'' ∧ R C zs' σ'' z'' s' ∧ Q z'' (.ref a) σ'')) X σ)
    (hs : ∀ x, foldedSetIterable iter C.env x = Pure.pure x := by intro _; rfl) : TT C z₀ (eval (.ListComp elt [⟨target, iter, ifs, 0⟩] scope pos) C.env) Q X σ := by
  intro zs z s hz hR
  rw [eval_ListComp]
  have hclo : ∀ x ∈ scope.names, x.2 = .free → ∃ c, C.env.cells.lookup x.1 = some c := fun x hx hf => hIn.cell _ (K.free x hx hf)
  have hnames : ∀ x ∈ scope.names, x.2 = .local → scope.names.lookup x.1 = some .local := fun x hx hl => by rw [← hl]; exact lookup_of_nodup K.nodup hx
  refine wpAny_comprehension_free (g := ⟨target, iter, ifs, 0⟩) (gs := []) rfl hs (closureFor_closOf hclo) K.kind hnames ?_
  show wpAny _ _ (eval iter C.env) _ _ s
  refine wpAny_mono (h z₀ zs z s hz hR) ?_ fun _ _ x => x
  rintro x s1 ⟨z1, σ1, l1, R1, v, rv, α, xs, φ, f, L, H0, S, W, hS, hH0, hL, hlen, turn, fin⟩
  obtain ⟨J, WO, st⟩ := W.start z1 x rv
  have WO := WO C.A hIn.calm
  refine st zs z1 σ1 s1 _ _ (Z.le_refl _) R1 (hS _ hH0) fun o hJ hfr => ?_
  refine wpAny_newList ?_ (by simp)
  refine wpAny_newFunctionEnv K.nocell (by intro x hx; simp at hx) (fun h4 hns hsb => ?_) K.kind
  have szI : (s1.heap.push o).objs.size = s1.heap.objs.size + 1 := Heap.size_push ..
  have szD : ((s1.heap.push o).push { cls := .type "list", data := .seq ([] : List Value).toArray }).objs.size = s1.heap.objs.size + 2 := by rw [Heap.size_push, szI]
  dsimp only at hns hsb ⊢
  rw [szD] at hns hsb ⊢
  rw [szI]
  have lo : ∀ b o', b < s1.heap.objs.size + 2 → ((s1.heap.push o).push { cls := .type "list", data := .seq ([] : List Value).toArray }).get? b = some o' → h4.get? b = some o' := fun b o' hb e =>
    (hsb.2 b (Nat.ne_of_lt hb)).trans (Heap.get?_push_of_some _ e)
  have eI : h4.get? s1.heap.objs.size = some o := lo _ _ (by omega) (Heap.get?_push_of_some _ (Heap.get?_push_size _ hfr))
  have eD : h4.get? (s1.heap.objs.size + 1) = some (lstO [] 0) := lo _ _ (by omega) (by have := Heap.get?_push_size (h := s1.heap.push o) (o := lstO [] 0) rfl; rw [szI] at this; exact this)
  have old : ∀ b o', s1.heap.get? b = some o' → h4.get? b = some o' := fun b o' e => lo _ _ (Nat.lt_of_lt_of_le (Heap.lt_size e) (Nat.le_add_right _ 2)) (Heap.get?_push_of_some _ (Heap.get?_push_of_some _ e))
  have fz : ∀ a, s1.heap.objs.size ≤ a → z1 a = none := fun a ha => R1.rh.fresh_z ha
  have fa : ∀ a, s1.heap.objs.size ≤ a → Apart C zs ⟨σ1.loc, H0⟩ a := fun a ha => let ⟨a1, a2, a3, a4⟩ := R1.apart_new ha; ⟨a1, a2, fun e => a3 ((hH0.map _).subset e), a4⟩
  have R4 : R C zs ⟨σ1.loc, H0⟩ z1 { s1 with heap := h4, toks := s1.toks + ([] : List (Str × Value)).length } := (R1.grow old).weaken (fun _ _ h => h) hH0
  generalize hs4 : ({ s1 with heap := h4, toks := s1.toks + ([] : List (Str × Value)).length } : Shared) = s4 at R4 ⊢
  have hh4 : s4.heap = h4 := by rw [← hs4]
  generalize hLc : s1.heap.objs.size + 2 = Lc at *
  generalize hD : s1.heap.objs.size + 1 = D at *
  generalize hI : s1.heap.objs.size = I at *
  have hID : I ≠ D := by omega
  have hIL : Lc ≠ I := by omega
  have hDL : Lc ≠ D := by omega
  obtain ⟨fr, hfrA, hfrOK⟩ := R4.frames
  have fr0 : FrOK fr (hid C zs s4.heap) := hfrOK _ fun _ _ e => e
  have hidn : ∀ a, I ≤ a → hid C zs s4.heap a = none := fun a ha => by
    obtain ⟨a1, a2, a3, a4⟩ := fa a ha
    exact hid_none a2 (fun e => by obtain ⟨p, hp, e⟩ := List.mem_map.mp e; exact a4 p hp e) a1
  have r0 := R4.hide
  have rI := r0.hideAt (by rw [hh4]; exact eI) (fz I (Nat.le_refl _)) (hidn I (Nat.le_refl _)) (fa I (Nat.le_refl _)).2.2.1
  have rD := rI.hideAt (by rw [hh4]; exact eD) (fz D (by omega)) (put_ne (Ne.symm hID) (hidn D (by omega))) (fa D (by omega)).2.2.1
  let C' : Cx := {
    g := C.g, A := C.A, env := compEnvC scope (closOf scope.names C.env.cells []) Lc C.env, outer := fr, n := C.n
    ro := scope.names.map (·.1)
    hk := K.kind
    hglob := C.hglob, hbuilt := C.hbuilt, hdep := C.hdep, hunits := C.hunits, hframes := .inr hfrA
    apart := by
      have hp := closOf_pair scope.names C.env.cells [] K.nodup List.Pairwise.nil (fun _ h => by cases h)
      have hmem : ∀ p ∈ closOf scope.names C.env.cells [], p ∈ C.env.cells := by
        intro p hp
        rcases closOf_mem _ _ _ p hp with h | ⟨h1, h2⟩
        · cases h
        · obtain ⟨c, hc⟩ := hclo _ h1 rfl
          have hc : C.env.cells.lookup p.1 = some c := hc
          rw [hc] at h2
          have := mem_of_lookup' hc
          have e : p = (p.1, c) := by rw [← show p.2 = c from h2]
          rw [e]; exact this
      have : ∀ l : List (Str × Addr), l.Pairwise (fun x y => x.1 ≠ y.1) → (∀ p ∈ l, p ∈ C.env.cells) → l.Pairwise (fun x y => x.2 ≠ y.2) := by
        intro l hl hm
        refine List.Pairwise.imp_of_mem ?_ hl
        intro a b ha hb hab e
        refine hab (name_of_addr C.apart (c := b.2) ?_ (hm b hb))
        rw [← e]; exact hm a ha
      exact this _ hp hmem }
  have hcell' : ∀ p ∈ closOf scope.names C.env.cells [], (p.1, NameKind.free) ∈ scope.names ∧ p ∈ C.env.cells := by
    intro p hp
    rcases closOf_mem _ _ _ p hp with h | ⟨h1, h2⟩
    · cases h
    · obtain ⟨c, hc⟩ := hclo _ h1 rfl
      have hc : C.env.cells.lookup p.1 = some c := hc
      rw [hc] at h2
      have := mem_of_lookup' hc
      have e : p = (p.1, c) := by rw [← show p.2 = c from h2]
      exact ⟨h1, by rw [e]; exact this⟩
  have hIn' : In C' g n (relabelS scope sc) := ⟨hIn.g, hIn.n, fun x => by show (relabel scope C.env).names.lookup x = _; rw [relabel_eq hIn.fn], fun x hx => by
      have hm := relabel_cell K hx
      obtain ⟨c, hc⟩ := hclo _ hm rfl
      exact ⟨c, closOf_lookup _ _ _ _ _ K.nodup hm hc⟩, hIn.calm, relabel_eq hIn.fn, hIn.gl⟩
  have cellNe : ∀ p ∈ C.env.cells, p.2 < I := by
    intro p hp
    obtain ⟨⟨ov, ic⟩, _⟩ := R1.cellsOk p hp
    exact hI ▸ ic.lt
  have kindL : ∀ x u, L.lookup x = some u → C'.env.kindOf x = some .cell := fun x u hx => by
    rw [hIn'.kind]; exact relabel_free K (hL x u hx).2
  have R0 : R C' (((hid C zs s4.heap).put I o).put D (lstO [] 0)) ⟨L, H0⟩ z1 s4 := by
    refine ⟨rD, ⟨_, by rw [hh4]; exact hns, fun x u hx hk => ?_⟩, fun x u hx hk => ?_, fun p hp => ?_, ⟨fz _ (by show I ≤ Lc; omega), put_ne hDL (put_ne hIL (hidn Lc (by omega))), (fa Lc (by omega)).2.2.1⟩, ?_⟩
    · rw [kindL x u hx] at hk; cases hk
    · obtain ⟨h1, h2⟩ := hL x u hx
      have hk1 : C.env.kindOf x = some .cell := (hIn.kind x).trans (K.free _ h2 rfl)
      obtain ⟨c, val, e1, e2, e3⟩ := R4.cells x u h1 (by rw [hk1]; rfl)
      exact ⟨c, val, closOf_lookup _ _ _ _ _ K.nodup h2 e1, e2, e3⟩
    · obtain ⟨h1, h2⟩ := hcell' p hp
      obtain ⟨a, b, _, d, e⟩ := R4.cellsOk p h2
      exact ⟨a, b, .inr (List.mem_map_of_mem (f := (·.1)) h1), Nat.ne_of_lt (Nat.lt_of_lt_of_le (cellNe p h2) (show I ≤ Lc by omega)), e⟩
    · exact (fr0.put (hidn I (Nat.le_refl _))).put (put_ne (Ne.symm hID) (hidn D (by omega)))
  have hI0 := hidn I (Nat.le_refl _)
  have hD0 := hidn D (by omega)
  have loop : codeAny C.M C.A (.compLoop (.ListComp elt [⟨target, iter, ifs, 0⟩] scope pos) 0 (.ref I) (.ref D) C'.env)
      (compPost C.M C.A (PX C zs z X) none (fun a s' => ∃ z' σ', Z.le z z' ∧ R C zs σ' z' s' ∧ Q z' a σ') (.ref D) Lc) s4 := by
    refine codeAny_loop rfl (fun m s' => ∃ i z' σ' o items k, m = xs.length - i ∧ i ≤ xs.length ∧ Z.le z1 z' ∧ R C' (((hid C zs s4.heap).put I o).put D (lstO items k)) σ' z' s' ∧ Le ⟨L, H0⟩ σ' ∧ J i o ∧ RepL z' ((xs.take i).filterMap f) items)
      (fun m s' hi => ?_) xs.length ⟨0, z1, _, o, [], 0, rfl, Nat.zero_le _, Z.le_refl _, R0, Le.refl _, hJ, by simpa using RepL.nil⟩
    obtain ⟨i, z', σ', o', items, k, hm, hile, lz, R', le', hJ', rl⟩ := hi
    obtain ⟨fs, hfs⟩ := WO.fields _ _ hJ'
    have stay := Stays.fields hfs
    show wpAny _ _ ((compTurn (.ListComp elt [⟨target, iter, ifs, 0⟩] scope pos) 0 (.ref I) (.ref D) C'.env).onRaise (fun x => do noteFrame x C'.env; theTreesLotGoes x)) _ _ s'
    refine wpAny_noted ?_
    rw [compTurn_list]
    have R1' : R C' (((hid C zs s4.heap).put D (lstO items k)).put I o') σ' z' s' := by rw [Z.put_comm (Ne.symm hID)]; exact R'
    have hat := R1'.rh.hidden put_self stay
    refine wpAny_bind (wpAny_standAt (wpAny_bind ?_))
    rcases Nat.lt_or_ge i xs.length with hlt | hge
    · have hx : xs[i]? = some xs[i] := List.getElem?_eq_getElem hlt
      have hv : (xs.map φ)[i]? = some (φ xs[i]) := by rw [List.getElem?_map, hx]; rfl
      refine WO.item _ _ _ s' I o' i _ _ _ hJ' hv R1'.rh ⟨lz, hS _ le'.led⟩ hat fun h' t o'' val e1 hJ'' hsb rv' => ?_
      have R2 := (R1'.iter (put_ne hID hI0) (fr0.put hD0) stay hsb.extBut e1 (t := t)).weaken (σ' := ⟨L, H0⟩) le'.loc le'.led
      refine wpAny_bind (letOwned e1 (WO.cls _ _ hJ'') ?_)
      refine wpAny_bind (wpAny_mono (turn C' hIn' _ (List.getElem_mem hlt) z' val rv' _ _ _ (Z.le_refl _) R2) ?_ fun _ _ x => x.absurd)
      rintro ⟨⟩ s3 ⟨z3, σ3, l3, R3, k3⟩
      refine wpAny_bind (wpAny_mono (k3 z3 _ _ _ (Z.le_refl _) R3) ?_ fun _ _ x => x.absurd)
      rintro ok s5 ⟨z5, σ5, l5, R5, k5⟩
      obtain ⟨fs', hfs'⟩ := WO.fields _ _ hJ''
      cases ok with
      | false =>
        obtain ⟨hout, hle⟩ := k5
        refine wpAny_pure ⟨rfl, xs.length - (i + 1), by omega, i + 1, z5, σ5, o'', items, k, rfl, by omega, Z.le_trans lz (Z.le_trans l3 l5), ?_, hle, hJ'', ?_⟩
        · rw [Z.put_comm hID]; exact R5
        · rw [filterMap_take f xs i _ hx, hout]; exact rl.mono (Z.le_trans l3 l5)
      | true =>
        refine wpAny_bind (wpAny_bind (wpAny_mono (k5 z5 _ _ _ (Z.le_refl _) R5) ?_ fun _ _ x => x.absurd))
        rintro y s6 ⟨z6, σ6, l6, R6, u, ru, hout, hle⟩
        have R6' : R C' (((hid C zs s4.heap).put I o'').put D (lstO items k)) σ6 z6 s6 := by rw [Z.put_comm hID]; exact R6
        have hatD := R6'.rh.hidden put_self (Stays.list items k)
        refine wpAny_bind (wpAny_list_append_plain (l := D) (items := items.toArray) ⟨k, hatD⟩ (fun h'' hpl hsb' => ?_) ?_)
        · obtain ⟨k', hk'⟩ := hpl
          have e2 : h''.get? D = some (lstO (items ++ [y]) k') := by rw [hk']; simp [lstO]
          have R7 := R6'.iter (o' := lstO (items ++ [y]) k') (put_ne (Ne.symm hID) hD0) (fr0.put hI0) (Stays.list items k) hsb'.extBut e2 (t := s6.toks)
          refine wpAny_pure (wpAny_pure ⟨rfl, xs.length - (i + 1), by omega, i + 1, z6, σ6, o'', items ++ [y], k', rfl, by omega, Z.le_trans lz (Z.le_trans l3 (Z.le_trans l5 l6)), R7, hle, hJ'', ?_⟩)
          rw [filterMap_take f xs i _ hx, hout]
          exact (rl.mono (Z.le_trans l3 (Z.le_trans l5 l6))).append (.cons ru .nil)
        · rw [List.size_toArray, rl.length, sizeLine_eq]
          have := List.length_filterMap_le f (xs.take i)
          have := List.length_take_le i xs
          omega
    · have he : i = xs.length := by omega
      subst he
      have hlenm : (xs.map φ).length = xs.length := List.length_map ..
      refine WO.fin _ _ _ s' I o' _ _ (by rw [hlenm]; exact hJ') R1'.rh ⟨lz, hS _ le'.led⟩ hat fun h' hx => ?_
      refine wpAny_pure ?_
      have R2 := R1'.unhide (put_ne hID hI0) (fr0.put hD0) stay hx (t := s'.toks)
      obtain ⟨ms, hms, _⟩ := R2.ns
      refine ⟨ms, hms, fun h'' hsb => ?_⟩
      have hatD := R2.rh.hidden put_self (Stays.list items k)
      have rr : RH C.g (hid C zs s4.heap) σ'.H z' { s' with heap := h'' } := (R2.rh.unhide hD0).free (I := Lc) (t := s'.toks) hsb.extBut R2.locFree.1 (hidn Lc (by omega)) R2.locFree.2.2
      have Rb := (R4.back lz rr).weaken (σ' := ⟨σ1.loc, H0⟩) (fun _ _ h => h) le'.led
      have hD'' : h''.get? D = some (lstO items k) := (hsb.2 D (Ne.symm hDL)).trans hatD
      rw [List.take_length] at rl
      obtain ⟨z'', σ'', lz'', R'', q⟩ := fin zs z' { s' with heap := h'' } D items k Rb hD'' (R2.rh.disj _ _ put_self) (fa D (by omega)) rl
      exact ⟨z'', σ'', Z.le_trans l1 (Z.le_trans lz lz''), R'', q⟩
  exact codeAny_compStart_list loop (WO.self s4 I o _ _ hJ (by rw [hh4]; exact eI) loop)
end
end PL

end
section
open PySem PySem.Calls PyProof.Rows
set_option Elab.async false
set_option linter.unusedVariables false
set_option linter.unusedSimpArgs false
set_option maxRecDepth 100000
namespace PL

def tyOf (o : Bool) : String := if o then "bytes" else "str"

namespace BF
theorem tyty (o : Bool) : typeOf (.type (tyOf o)) = pure (.type "type") := by cases o <;> kernel_rfl
theorem kind_isn : builtinKind "issubclass.nested" = none := by decide +kernel
theorem plain_isn : plainId "issubclass.nested" = true := by decide +kernel
theorem args_isn (a b c : Value) : argsOk "issubclass.nested" ⟨[a, b, c], []⟩ := by unfold argsOk; kernel_rfl
theorem sub_ss : isSubtype (.type "str") (.type "str") = pure true := by rw [isSubtype_type]; kernel_rfl
theorem sub_bs : isSubtype (.type "bytes") (.type "str") = pure false := by rw [isSubtype_type]; kernel_rfl
theorem sub_bb : isSubtype (.type "bytes") (.type "bytes") = pure true := by rw [isSubtype_type]; kernel_rfl
end BF

section
variable {C : Cx} {X : XP} {σ : St} {Q : V → St → Prop}

theorem txt_typeIs {z : Z} {o : Bool} {l : List Nat} {x : Value} (r : Rep z (.txt o l) x) (s : Shared) : s.TypeIs x (tyOf o) := by
  cases r with
  | str _ t => exact typeIs_str _ _ _
  | bytes _ t h => exact PySem.W.typeIs_bytes _ _ _

theorem call_type {o : Bool} {l : List Nat} (h : Q (.con (.type (tyOf o))) σ) : CallV C (.type "type") [.txt o l] Q X σ := by
  refine CallV.toks fun z₀ zs z s xs hz hR r => ?_
  cases r with
  | cons r t =>
    cases t
    exact call_type_of (txt_typeIs r s) (by cases o <;> decide) (PVal.same hR (.con _) h)

section
variable {prog : Program} {w : World} {A : Around} {E : Value → Shared → Prop} {s : Shared}
theorem isn_one {T S : String} {b : Bool} {k : Value} {Q : Fin → Shared → Prop} (hk : ∃ n t, k = .int n t) (hs : isSubtype (.type T) (.type S) = pure b) (hS : typeOf (.type S) = pure (.type "type")) (hq : Q (.done (.ret (.bool b))) s) :
    wpAny (model prog w) A (Builtin.«issubclass.nested» ⟨[.type T, .type S, k], []⟩) Q E s := by
  obtain ⟨n, t, rfl⟩ := hk
  unfold Builtin.«issubclass.nested»
  refine wpAny_bind (m := typeOf (.type S)) (wpAny_of_eq hS ?_)
  show wpAny _ _ (if (Value.type "type" == Value.type "type") = true then _ else _) _ _ s
  rw [if_pos (by decide)]
  repeat (any_goals (first | assumption | (rw [hs]) | wp_step))
theorem isn_call {T S : String} {b : Bool} {Q : Value → Shared → Prop} (hs : isSubtype (.type T) (.type S) = pure b) (hS : typeOf (.type S) = pure (.type "type")) (hq : Q (.bool b) s) :
    wpAny (model prog w) A (call (.builtin "issubclass.nested") [.type T, .type S, rawInt (0 + 1)]) Q E s := by
  refine call_function_any BF.kind_isn BF.plain_isn F.entry_issubclass_nested (BF.args_isn _ _ _) ?_
  exact isn_one ⟨_, _, rfl⟩ hs hS hq

/-- is the class one of the two text classes -/
theorem isn_pair {o : Bool} {a : Addr} {n : Nat} {Q : Fin → Shared → Prop} (ho : s.heap.get? a = some (tupO [.type "str", .type "bytes"] n)) (hq : Q (.done (.ret (.bool true))) s) :
    wpAny (model prog w) A (Builtin.«issubclass.nested» ⟨[.type (tyOf o), .ref a, rawInt 0], []⟩) Q E s := by
  have hT : s.TypeIs (.ref a) "tuple" := ⟨_, ho, rfl⟩
  unfold Builtin.«issubclass.nested»
  refine wpAny_bind (m := typeOf (.ref a)) (wpAny_typeOf hT ?_)
  show wpAny _ _ (if (Value.type "tuple" == Value.type "type") = true then _ else _) _ _ s
  rw [if_neg (by decide)]
  refine wpAny_bind (m := Builtin.Builtins.unionMembers (.ref a)) ?_
  unfold Builtin.Builtins.unionMembers
  refine wpAny_bind (wpAny_typeOf hT ?_)
  rw [if_neg (by decide)]
  refine wpAny_pure ?_
  refine wpAny_bind (wpAny_isInstance hT sub_tuple_tuple ?_)
  rw [if_pos rfl]
  have key : wpAny (model prog w) A (do
      for c in (← seqItems? (.ref a)).getD #[] do
        if ← truthy (← call (.builtin "issubclass.nested") [.type (tyOf o), c, rawInt (0 + 1)]) then return ← ret (.bool true)
      return ← ret (.bool false)) Q E s := by
    refine wpAny_bind ?_
    unfold seqItems?
    refine wpAny_bind (wpAny_load ho (wpAny_pure ?_))
    simp only [Option.getD_some, List.forIn_toArray, List.forIn_cons, List.forIn_nil]
    cases o with
    | false =>
      refine wpAny_bind (wpAny_bind (wpAny_bind (isn_call BF.sub_ss (BF.tyty false) ?_)))
      refine wpAny_bind (wpAny_truthy_bool ?_)
      rw [if_pos rfl]
      repeat (any_goals (first | assumption | wp_step))
    | true =>
      refine wpAny_bind (wpAny_bind (wpAny_bind (isn_call BF.sub_bs (BF.tyty false) ?_)))
      refine wpAny_bind (wpAny_truthy_bool ?_)
      rw [if_neg Bool.false_ne_true]
      refine wpAny_pure ?_
      refine wpAny_bind (wpAny_bind (isn_call BF.sub_bb (BF.tyty true) ?_))
      refine wpAny_bind (wpAny_truthy_bool ?_)
      rw [if_pos rfl]
      repeat (any_goals (first | assumption | wp_step))
  exact key
theorem issub_pair {o : Bool} {a : Addr} {n : Nat} {Q : Value → Shared → Prop} (ho : s.heap.get? a = some (tupO [.type "str", .type "bytes"] n)) (hq : Q (.bool true) s) :
    wpAny (model prog w) A (call (.builtin "issubclass") [.type (tyOf o), .ref a]) Q E s := by
  refine call_function_any F.kind_issubclass F.plain_issubclass F.entry_issubclass (F.args_issubclass_2 _ _) ?_
  exact issubclass_outer (R := fun r s' => match r with | .ok (.ret v) => Q v s' | .ok _ => False | .error e => E e s') (isn_pair ho hq)
end
theorem call_issubclass_pair {o : Bool} (h : Q (.bool true) σ) : CallV C (.builtin "issubclass") [.con (.type (tyOf o)), .tup [.con (.type "str"), .con (.type "bytes")]] Q X σ := by
  refine CallV.toks fun z₀ zs z s xs hz hR r => ?_
  cases r with
  | cons r t => cases t with
    | cons r2 t => cases t; cases r with
      | con => cases r2 with
        | tup e hr => cases hr with
          | cons a b => cases a; cases b with
            | cons a b => cases a; cases b; exact issub_pair (hR.rh.hz _ _ e) (PVal.same hR (.bool true) h)
end
end PL

end
section
open PySem PySem.Calls PyProof.Rows
set_option Elab.async false
set_option linter.unusedVariables false
set_option linter.unusedSimpArgs false
set_option maxRecDepth 100000
namespace PL

section
variable {C : Cx} {X : XP} {σ : St} {Q : V → St → Prop}

theorem CallV.grown {Q : V → St → Prop} {zs z : Z} {s : Shared} (hR : R C zs σ z s) {v : V} {x : Value} {h' : Heap} {t : Nat} (k : ∀ b o, s.heap.get? b = some o → h'.get? b = some o) (r : Rep z v x) (h : Q v σ) :
    ∃ z' σ', Z.le z z' ∧ R C zs σ' z' { s with heap := h', toks := t } ∧ PVal Q z' x σ' := ⟨z, σ, Z.le_refl _, hR.grow k, v, r, h⟩

theorem call_isinstance_txt {o p : Bool} {l : List Nat} (h : Q (.bool (o == p)) σ) : CallV C (.builtin "isinstance") [.txt o l, .con (.type (tyOf p))] Q X σ := by
  refine CallV.toks fun z₀ zs z s xs hz hR r => ?_
  cases r with
  | cons r t => cases t with
    | cons r2 t => cases t; cases r2; cases r with
      | str _ t =>
        cases p with
        | false => exact PySem.IsiPair.str_str (PVal.same hR (.bool true) h)
        | true => exact PySem.IsiPair.str_bytes (PVal.toks hR (.bool false) h)
      | bytes _ t hl =>
        cases p with
        | false => exact call_isinstance (fun _ _ _ _ s hs => by
            obtain ⟨h, g, d, t, os⟩ := s
            exact isinstance_outer (isinstance_nested_false_bytes (by decide) (BF.tyty false) BF.sub_bs hs)) (S := fun _ R s => R (.ok (.ret (.bool false))) { s with toks := s.toks + 1 }) (PVal.toks hR (.bool false) h)
        | true => exact call_isinstance (isinstance_true (BF.tyty true) BF.sub_bb) ⟨PySem.W.typeIs_bytes _ _ _, PVal.same hR (.bool true) h⟩

theorem call_len_txt {o : Bool} {l : List Nat} (hn : l.length ≤ 16777216) (h : Q (.int l.length) σ) : CallV C (.builtin "len") [.txt o l] Q X σ := by
  refine CallV.toks fun z₀ zs z s xs hz hR r => ?_
  cases r with
  | cons r t => cases t; cases r with
    | str _ t => exact P.len_str (by rw [strlen]; omega) (PVal.toks hR (by rw [strlen]; exact .int _ _) h)
    | bytes _ t hl => exact PySem.W.len_bytes (by simp; omega) (PVal.toks hR (by simpa using Rep.int (l.length : Int) _) h)
theorem call_len_list {v : V} {vs : List V} (k : IsL σ v vs) (hn : vs.length ≤ 16777216) (h : Q (.int vs.length) σ) : CallV C (.builtin "len") [v] Q X σ := by
  refine CallV.toks fun z₀ zs z s xs hz hR r => ?_
  cases r with
  | cons r t =>
    cases t
    obtain ⟨a, items, rfl, p, q⟩ := k.at r (Z.le_refl _) hR
    have e : items.toArray.size = vs.length := by rw [List.size_toArray, q.length]
    exact PySem.Calls.call_len_list p (by rw [e]; omega) (PVal.toks hR (by rw [e]; exact .int _ _) h)
theorem call_ord {c : Nat} (h : Q (.int c) σ) : CallV C (.builtin "ord") [.txt false [c]] Q X σ := by
  refine CallV.toks fun z₀ zs z s xs hz hR r => ?_
  cases r with
  | cons r t => cases t; cases r with
    | str _ t => exact P.ord_of_char (PVal.toks hR (.int _ _) h)
theorem call_chr {i : Int} (h0 : 0 ≤ i) (h1 : i ≤ 1114111) (h : Q (.txt false [i.toNat]) σ) : CallV C (.builtin "chr") [.int i] Q X σ := by
  refine CallV.toks fun z₀ zs z s xs hz hR r => ?_
  cases r with
  | cons r t => cases t; cases r with
    | int _ t => exact P.chr_of_int (by simp; omega) (PVal.toks hR (.str _ _) h)
theorem call_min2 {a b : Int} (hh : C.A.handled = none) (h : Q (.int (if b < a then b else a)) σ) : CallV C (.builtin "min") [.int a, .int b] Q X σ := by
  refine CallV.toks fun z₀ zs z s xs hz hR r => ?_
  cases r with
  | cons r t => cases t with
    | cons r2 t => cases t; cases r; cases r2; exact min_two_ints hh fun h' tk k => CallV.grown hR k (by split <;> simp_all <;> exact .int _ _) h
theorem RepL.intItems {z : Z} : ∀ {ns : List Int} {xs : List Value}, RepL z (ns.map .int) xs → ∃ ps : List (Int × Tok), xs = ps.map (fun p => .int p.1 p.2) ∧ ps.map (·.1) = ns
  | [], _, .nil => ⟨[], rfl, rfl⟩
  | n :: ns, _, .cons r t => by
    obtain ⟨ps, e1, e2⟩ := RepL.intItems t
    cases r with
    | int _ tk => exact ⟨(n, tk) :: ps, by simp [e1], by simp [e2]⟩
theorem preSum_list (ps : List (Int × Tok)) : preSum (numAt ps.toArray) ps.toArray.size = (ps.map (·.1)).sum := by
  rw [preSum_eq, List.take_of_length_le (by simp)]
theorem call_sum {v : V} {ns : List Int} (hh : C.A.handled = none) (k : IsL σ v (ns.map .int)) (h : Q (.int ns.sum) σ) : CallV C (.builtin "sum") [v] Q X σ := by
  refine CallV.toks fun z₀ zs z s xs hz hR r => ?_
  cases r with
  | cons r t =>
    cases t
    obtain ⟨a, items, rfl, p, q⟩ := k.at r (Z.le_refl _) hR
    obtain ⟨ps, e1, e2⟩ := q.intItems
    have e3 : items.toArray = intItems ps.toArray := by rw [e1]; simp [PySem.intItems]
    rw [e3] at p
    refine sum_intListG hh p fun h' tk t' k => ?_
    rw [preSum_list, e2]
    exact CallV.grown hR k (.int _ _) h
theorem call_bytes {v : V} {ns : List Nat} (hh : C.A.handled = none) (k : IsL σ v (ns.map fun c : Nat => .int (c : Int))) (hr : ∀ c ∈ ns, c < 256) (hn : ns.length ≤ 16777216) (h : Q (.txt true ns) σ) :
    CallV C (.type "bytes") [v] Q X σ := by
  refine CallV.toks fun z₀ zs z s xs hz hR r => ?_
  cases r with
  | cons r t =>
    cases t
    obtain ⟨a, items, rfl, p, q⟩ := k.at r (Z.le_refl _) hR
    have q' : RepL z ((ns.map fun c : Nat => (c : Int)).map .int) items := by rw [List.map_map]; exact q
    obtain ⟨ps, e1, e2⟩ := q'.intItems
    have hi : ∀ ps : List (Int × Tok), IntsAre (ps.map fun p => .int p.1 p.2) (ps.map (·.1)) := by
      intro ps
      induction ps with
      | nil => exact .nil
      | cons p r ih => exact .cons _ _ ih
    subst e1
    refine call_bytes_ints p (hi ps) ?_ (by have := q'.length; rw [List.length_map, List.length_map] at this; rw [List.length_map] at this ⊢; rw [this]; exact size_ok hn) hh fun h' t k hk => ?_
    · rw [e2]
      intro n hn
      obtain ⟨c, hc, rfl⟩ := List.mem_map.mp hn
      have := hr c hc
      omega
    · have : PySem.byteArr (ps.map (·.1)) = (ns.map UInt8.ofNat).toArray := by
        rw [e2]
        unfold PySem.byteArr
        rw [List.map_map]
        congr 1
      rw [this]
      exact CallV.grown hR hk (.bytes _ _ hr) h

theorem RepL.strItems {z : Z} : ∀ {ns : List (List Nat)} {xs : List Value}, RepL z (ns.map (.txt false)) xs → ∃ ps : List (Str × Tok), xs = strValues ps ∧ ps.map (·.1) = ns.map strOf
  | [], _, .nil => ⟨[], rfl, rfl⟩
  | n :: ns, _, .cons r t => by
    obtain ⟨ps, e1, e2⟩ := RepL.strItems t
    cases r with
    | str _ tk => exact ⟨(strOf n, tk) :: ps, by simp [e1, strValues, strOf], by simp [e2]⟩
theorem joinFold (sep : Nat) : ∀ (ps : List (List Nat)) (acc : Nat), (ps.map strOf).foldl (fun a x => a + x.length + sep) acc = acc + (ps.map List.length).sum + ps.length * sep
  | [], acc => by simp
  | p :: r, acc => by
    rw [List.map_cons, List.foldl_cons, joinFold sep r, List.map_cons, List.sum_cons, List.length_cons, Nat.succ_mul]
    have : (strOf p).length = p.length := strlen
    rw [this]; omega
theorem call_join_str {sep : List Nat} {v : V} {ps : List (List Nat)} (k : IsL σ v (ps.map (.txt false))) (hn : (ps.map List.length).sum + ps.length * sep.length ≤ 16777216) (h : Q (.txt false (joinS sep ps)) σ) :
    CallV C (.builtin "str.join") [.txt false sep, v] Q X σ := by
  refine CallV.toks fun z₀ zs z s xs hz hR r => ?_
  cases r with
  | cons r t => cases t with
    | cons r2 t =>
      cases t
      obtain ⟨a, items, n, rfl, p, q⟩ := k.obj r2 (Z.le_refl _) hR
      cases r with
      | str _ t =>
        obtain ⟨l, e1, e2⟩ := q.strItems
        subst e1
        refine SC.join (D := a) (l := l) (texts := ps.map strOf) ⟨_, p, rfl, _, rfl⟩ e2 ?_ fun t' k' => ?_
        · unfold JoinOk
          rw [Bool.not_eq_true']
          show Builtin.Str.tooLong _ = false
          have := joinFold sep.length ps 0
          have e : ((ps.map strOf).toArray.foldl (fun x1 x2 => x1 + x2.length + (⟨sep.toArray⟩ : Str).length) 0) = 0 + (ps.map List.length).sum + ps.length * sep.length := by
            rw [List.foldl_toArray, strlen]; exact this
          rw [e]
          unfold Builtin.Str.tooLong
          rw [sizeLine_eq]
          simp; omega
        · have e : Txt.join ⟨sep.toArray⟩ (ps.map strOf) = strOf (joinS sep ps) := by
            rw [← str_join]; exact StrLaws.glued_eq_join _ _
          rw [e]
          exact PVal.toks hR (.str _ _) h
theorem call_range1 {n : Int} (h : Q (.rng 0 n 1) σ) : CallV C (.type "range") [.int n] Q X σ := by
  refine CallV.toks fun z₀ zs z s xs hz hR r => ?_
  cases r with
  | cons r t => cases t; cases r with
    | int _ t =>
      refine call_range_1 ?_
      obtain ⟨R', l⟩ := hR.frozen { cls := .type "range", data := .fields #[.int 0 s.toks, .int n t, .int 1 (s.toks + 1)] } (s.toks + 1 + 1)
      exact ⟨_, _, l, R', _, .rng put_self, h⟩
theorem call_range2 {a b : Int} (h : Q (.rng a b 1) σ) : CallV C (.type "range") [.int a, .int b] Q X σ := by
  refine CallV.toks fun z₀ zs z s xs hz hR r => ?_
  cases r with
  | cons r t => cases t with
    | cons r2 t => cases t; cases r with
      | int _ t => cases r2 with
        | int _ u =>
          refine call_range_2 ?_
          obtain ⟨R', l⟩ := hR.frozen { cls := .type "range", data := .fields #[.int a t, .int b u, .int 1 s.toks] } (s.toks + 1)
          exact ⟨_, _, l, R', _, .rng put_self, h⟩
end
end PL

end
section
open PySem PySem.Calls PyProof.Rows
set_option Elab.async false
set_option linter.unusedVariables false
set_option linter.unusedSimpArgs false
set_option maxRecDepth 100000
namespace PL

section
variable {C : Cx} {X : XP} {σ : St}

theorem TE.listcompF {g : Gd} {n : Nat} {sc scope : Scope} {elt target iter : Expr} {ifs : List Expr} {pos : Pos} {Q : V → St → Prop} (hIn : In C g n sc) (K : CompOK scope sc)
    (h : TE C iter (fun v σ1 => ∃ (α : Type) (xs : List α) (φ : α → V) (f : α → Option V) (L : List (Str × V)) (H0 : Led) (S : Led → Prop),
      Walk C v (xs.map φ) S ∧ (∀ H', H0.Sublist H' → S H') ∧ H0.Sublist σ1.H ∧ (∀ x u, L.lookup x = some u → σ1.loc.lookup x = some u ∧ (x, NameKind.free) ∈ scope.names) ∧ xs.length ≤ 16777216 ∧
      (∀ C', In C' g n (relabelS scope sc) → ∀ x ∈ xs, CTurn C' target ifs elt (φ x) (f x) X ⟨L, H0⟩) ∧
      Q (.lst (xs.filterMap f)) ⟨σ1.loc, H0⟩) X σ)
    (hs : ∀ x, foldedSetIterable iter C.env x = pure x := by intro _; rfl) : TE C (.ListComp elt [⟨target, iter, ifs, 0⟩] scope pos) Q X σ := by
  intro z₀
  refine TT.listcomp hIn K (h.mono fun v σ1 ⟨α, xs, φ, f, L, H0, S, h1, h2, h3, h4, h5, h6, h7⟩ => ⟨α, xs, φ, f, L, H0, S, h1, h2, h3, h4, h5, h6, ?_⟩) hs
  intro zs' z' s' a items k R' e ez ap rl
  have l := Z.le_put R'.rh e
  exact ⟨_, _, l, R'.freeze e ap, _, .lst put_self (rl.mono l), h7⟩
theorem TE.listcompM {g : Gd} {n : Nat} {sc scope : Scope} {elt target iter : Expr} {ifs : List Expr} {pos : Pos} {Q : V → St → Prop} (hIn : In C g n sc) (K : CompOK scope sc)
    (h : TE C iter (fun v σ1 => ∃ (α : Type) (xs : List α) (φ : α → V) (f : α → Option V) (L : List (Str × V)) (H0 : Led) (S : Led → Prop),
      Walk C v (xs.map φ) S ∧ (∀ H', H0.Sublist H' → S H') ∧ H0.Sublist σ1.H ∧ (∀ x u, L.lookup x = some u → σ1.loc.lookup x = some u ∧ (x, NameKind.free) ∈ scope.names) ∧ xs.length ≤ 16777216 ∧
      (∀ C', In C' g n (relabelS scope sc) → ∀ x ∈ xs, CTurn C' target ifs elt (φ x) (f x) X ⟨L, H0⟩) ∧
      ∀ a, Q (.ref a) ⟨σ1.loc, (a, .list (xs.filterMap f)) :: H0⟩) X σ)
    (hs : ∀ x, foldedSetIterable iter C.env x = pure x := by intro _; rfl) : TE C (.ListComp elt [⟨target, iter, ifs, 0⟩] scope pos) Q X σ := by
  intro z₀
  refine TT.listcomp hIn K (h.mono fun v σ1 ⟨α, xs, φ, f, L, H0, S, h1, h2, h3, h4, h5, h6, h7⟩ => ⟨α, xs, φ, f, L, H0, S, h1, h2, h3, h4, h5, h6, ?_⟩) hs
  intro zs' z' s' a items k R' e ez ap rl
  exact ⟨z', _, Z.le_refl _, R'.ledger (o := .list (xs.filterMap f)) ⟨items, k, e, rl⟩ ez ap, _, .ref a, h7 a⟩

/-- reading `l[k]` -/
def Get (C : Cx) (o i : V) (Q : V → St → Prop) (X : XP) (σ : St) : Prop := ∀ z₀ x y, Rep z₀ o x → Rep z₀ i y → TT C z₀ (getItem x y) (PVal Q) X σ
/-- setting `l[k]` -/
def Put (C : Cx) (o i v : V) (Q : St → Prop) (X : XP) (σ : St) : Prop := ∀ z₀ x y u, Rep z₀ o x → Rep z₀ i y → Rep z₀ v u → TT C z₀ (setItem x y u) (fun _ _ σ' => Q σ') X σ
theorem TS.augSub {o i e : Expr} {tpos pos : Pos} {op : Operator} {Q : Fl → St → Prop}
    (h : TE C o (fun ov σ1 => TE C i (fun iv σ2 => Get C ov iv (fun old σ3 => TE C e (fun v σ4 => Inp C op old v (fun new σ5 => Put C ov iv new (fun σ6 => Q .next σ6) X σ5) X σ4) X σ3) X σ2) X σ1) X σ)
    (hi : ∀ ov iv new, augStore i ov iv new = (do holding [new, ov, iv] (setItem ov iv new); release [new, ov, iv] []; pure .next) := by intros; rfl) :
    TS C (.AugAssign (.Subscript o i tpos) op e pos) Q X σ := by
  intro z₀ zs z s hz hR
  refine wpAny_AugAssign_SubscriptAny ?_ hi
  refine wpAny_mono (h z₀ zs z s hz hR) ?_ fun _ _ x => x
  rintro ov s1 ⟨z1, σ1, l1, R1, vo, ro, h1⟩
  refine wpAny_mono (h1 z1 zs z1 s1 (Z.le_refl _) R1) ?_ fun _ _ x => PX.le l1 x
  rintro iv s2 ⟨z2, σ2, l2, R2, vi, ri, h2⟩
  refine wpAny_mono (h2 z2 ov iv (ro.mono l2) ri zs z2 s2 (Z.le_refl _) R2) ?_ fun _ _ x => PX.le (Z.le_trans l1 l2) x
  rintro old s3 ⟨z3, σ3, l3, R3, vold, rold, h3⟩
  refine wpAny_mono (h3 z3 zs z3 s3 (Z.le_refl _) R3) ?_ fun _ _ x => PX.le (Z.le_trans (Z.le_trans l1 l2) l3) x
  rintro v s4 ⟨z4, σ4, l4, R4, vv, rv, h4⟩
  refine wpAny_mono (h4 z4 old v (rold.mono l4) rv zs z4 s4 (Z.le_refl _) R4) ?_ fun _ _ x => PX.le (Z.le_trans (Z.le_trans (Z.le_trans l1 l2) l3) l4) x
  rintro new s5 ⟨z5, σ5, l5, R5, vn, rn, h5⟩
  have l25 := Z.le_trans (Z.le_trans l3 l4) l5
  refine wpAny_mono (h5 z5 ov iv new (ro.mono (Z.le_trans l2 l25)) (ri.mono l25) rn zs z5 s5 (Z.le_refl _) R5) ?_ fun _ _ x => PX.le (Z.le_trans (Z.le_trans l1 l2) l25) x
  rintro ⟨⟩ s6 ⟨z6, σ6, l6, R6, h6⟩
  exact ⟨z6, σ6, Z.le_trans (Z.le_trans (Z.le_trans l1 l2) l25) l6, R6, .next, .next, h6⟩

theorem Get.list {Q : V → St → Prop} {v : V} {vs : List V} {j : Nat} {u : V} (hl : IsL σ v vs) (hn : vs.length ≤ 16777216) (hu : vs[j]? = some u) (h : Q u σ) : Get C v (.int j) Q X σ := by
  rintro z₀ x _ rx ⟨⟩ zs z s hz hR
  obtain ⟨a, items, rfl, p, q⟩ := hl.at rx hz hR
  obtain ⟨xv, hx, r⟩ := q.get hu
  have hj := (List.getElem?_eq_some_iff.mp hu).1
  refine wpAny_getItem_list p (by omega) (by omega) (x := xv) ?_ (PVal.same hR r h)
  simpa using hx
theorem RepL.set {z : Z} : ∀ {vs : List V} {xs : List Value} {v : V} {x : Value} (j : Nat), RepL z vs xs → Rep z v x → RepL z (vs.set j v) (xs.set j x)
  | _, _, _, _, _, .nil, _ => by simpa using RepL.nil
  | _, _, _, _, 0, .cons a t, r => .cons r t
  | _, _, _, _, j + 1, .cons a t, r => .cons a (t.set j r)
theorem Put.led {Q : St → Prop} {a : Addr} {vs : List V} {j : Nat} {u : V} {H' : Led} (hu : Upd a (.list vs) (.list (vs.set j u)) σ.H H') (hn : vs.length ≤ 16777216) (hj : j < vs.length) (h : Q ⟨σ.loc, H'⟩) : Put C (.ref a) (.int j) u Q X σ := by
  rintro z₀ x _ uv rx ⟨⟩ ru zs z s hz hR
  cases rx
  obtain ⟨⟨items, n, e, rl⟩, _⟩ := hR.rh.hH _ hu.mem
  have hlen := rl.length
  refine PySem.W.ki_setAt (items := items.toArray) (n := n) e (by omega) (by omega) (by simp; omega) ?_
  have e2 : (Obj.mapSeq (·.setIfInBounds (j : Int).toNat uv) (lstO items n)) = lstO (items.set j uv) n := by
    simp [Obj.mapSeq, lstO]
  refine ⟨z, _, Z.le_refl _, hR.upd hu (t := s.toks) (Heap.SameBut.update ..) ⟨items.set j uv, n, ?_, rl.set j (ru.mono hz)⟩, h⟩
  rw [Heap.get?_update_self _ e (by rw [e2]; rfl), e2]
end

/-! equality of plain data -/
mutual
def toD : V → PyData
  | .none => .none
  | .bool b => .bool b
  | .int i => .int i
  | .txt _ l => .str ⟨l.toArray⟩
  | .tup vs => .tuple (toDs vs)
  | .lst vs => .list (toDs vs)
  | _ => .none
def toDs : List V → List PyData
  | [] => []
  | v :: r => toD v :: toDs r
end
mutual
def plainV : V → Bool
  | .none => true
  | .bool _ => true
  | .int _ => true
  | .txt o l => !o && l.all (· < 0x110000)
  | .tup vs => plainVs vs
  | .lst vs => plainVs vs
  | _ => false
def plainVs : List V → Bool
  | [] => true
  | v :: r => plainV v && plainVs r
end
mutual
def deepV : V → Nat
  | .tup vs => deepVs vs + 1
  | .lst vs => deepVs vs + 1
  | _ => 0
def deepVs : List V → Nat
  | [] => 0
  | v :: r => max (deepV v) (deepVs r)
end
mutual
theorem reads_of {z : Z} {h : Heap} (k : ∀ b o, z b = some o → h.get? b = some o) : ∀ {v : V} {x : Value}, Rep z v x → plainV v = true → ∃ as, Reads h x (toD v) as
  | _, _, .none, _ => ⟨_, .none⟩
  | _, _, .bool b, _ => ⟨_, .bool b⟩
  | _, _, .int i t, _ => ⟨_, .int i t⟩
  | _, _, .str l t, _ => ⟨_, .str _ t⟩
  | _, _, .bytes l t _, e => by simp [plainV] at e
  | _, _, .tup e hr, p => let ⟨as, ra⟩ := reads_ofs k hr (by simpa [plainV] using p); ⟨_, .tuple (k _ _ e) rfl rfl (by simpa using ra)⟩
  | _, _, .lst e hr, p => let ⟨as, ra⟩ := reads_ofs k hr (by simpa [plainV] using p); ⟨_, .list (k _ _ e) rfl rfl (by simpa using ra)⟩
  | _, _, .ref a, p => by simp [plainV] at p
  | _, _, .con v, p => by simp [plainV] at p
  | _, _, .rng _, p => by simp [plainV] at p
  | _, _, .opq _ _, p => by simp [plainV] at p
theorem reads_ofs {z : Z} {h : Heap} (k : ∀ b o, z b = some o → h.get? b = some o) : ∀ {vs : List V} {xs : List Value}, RepL z vs xs → plainVs vs = true → ∃ as, ReadsAll h xs (toDs vs) as
  | _, _, .nil, _ => ⟨_, .nil⟩
  | v :: vs, _, .cons r t, p => by
    have p1 : plainV v = true ∧ plainVs vs = true := by simpa [plainVs] using p
    obtain ⟨as, ra⟩ := reads_of k r p1.1
    obtain ⟨bs, rb⟩ := reads_ofs k t p1.2
    exact ⟨_, .cons ra rb⟩
end
mutual
theorem canLay_of : ∀ {v : V}, plainV v = true → (toD v).canLay0 = true
  | .none, _ => rfl
  | .bool _, _ => rfl
  | .int _, _ => rfl
  | .txt o l, p => by simp [plainV] at p; simpa [toD, PyData.canLay0, PyData.strOk] using p.2
  | .tup vs, p => by simpa [toD, PyData.canLay0] using canLays_of (by simpa [plainV] using p)
  | .lst vs, p => by simpa [toD, PyData.canLay0] using canLays_of (by simpa [plainV] using p)
  | .ref _, p => by simp [plainV] at p
  | .con _, p => by simp [plainV] at p
  | .rng _ _ _, p => by simp [plainV] at p
  | .opq _, p => by simp [plainV] at p
theorem canLays_of : ∀ {vs : List V}, plainVs vs = true → PyData.canLayAll0 (toDs vs) = true
  | [], _ => rfl
  | v :: r, p => by
    have p1 : plainV v = true ∧ plainVs r = true := by simpa [plainVs] using p
    simp [toDs, PyData.canLayAll0, canLay_of p1.1, canLays_of p1.2]
end
mutual
theorem depth_of : ∀ (v : V), (toD v).depth = deepV v
  | .none => rfl
  | .bool _ => rfl
  | .int _ => rfl
  | .txt o l => rfl
  | .tup vs => by simp [toD, PyData.depth, deepV, depths_of vs]
  | .lst vs => by simp [toD, PyData.depth, deepV, depths_of vs]
  | .ref _ => rfl
  | .con _ => rfl
  | .rng _ _ _ => rfl
  | .opq _ => rfl
theorem depths_of : ∀ (vs : List V), PyData.depthAll (toDs vs) = deepVs vs
  | [] => rfl
  | v :: r => by simp [toDs, PyData.depthAll, deepVs, depth_of v, depths_of r]
end
section
variable {C : Cx} {X : XP} {σ : St} {Q : V → St → Prop}
theorem Cmp.eq_data {a b : V} (ha : plainV a = true) (hb : plainV b = true) (da : deepV a ≤ 64) (db : deepV b ≤ 64) (h : Q (.bool (PyData.eqv (toD a) (toD b))) σ) : Cmp C .Eq a b Q X σ := by
  intro z₀ x y rx ry zs z s hz hR
  obtain ⟨as, ra⟩ := reads_of hR.rh.hz (rx.mono hz) ha
  obtain ⟨bs, rb⟩ := reads_of hR.rh.hz (ry.mono hz) hb
  have hu := C.hunits
  refine eq_dataH ra rb ?_ ?_ (by show _ < 9900; omega) (PVal.same hR (.bool _) h)
  · unfold SeqAt.shaped; rw [canLay_of ha, depth_of]; simp [da]
  · unfold SeqAt.shaped; rw [canLay_of hb, depth_of]; simp [db]
end
end PL

end
section
open PySem PySem.W PySem.Calls PyProof.Rows
set_option Elab.async false
set_option linter.unusedVariables false
set_option linter.unusedSimpArgs false
set_option maxRecDepth 100000
namespace PL

def recAt (p : Program) (i : Nat) : DefRec := match p.main.body[i]? with
  | some (.FunctionDef n a b _ _ _ sc _ _ pos) => ⟨n, a, b, sc, pos⟩
  | _ => ⟨default, { posonlyargs := [], args := [], vararg := none, kwonlyargs := [], kw_defaults := [], kwarg := none, defaults := [] }, [], default, default⟩
abbrev bodyAt (p : Program) (i : Nat) : List Stmt := (recAt p i).body
abbrev scAt (p : Program) (i : Nat) : Scope := (recAt p i).scope
abbrev nameAt (p : Program) (i : Nat) : Str := (recAt p i).name
abbrev parsAt (p : Program) (i : Nat) : List Str := (recAt p i).params.args.map (·.arg)

/-- the address holds the function of the text's statement i -/
def Fn (g : Gd) (p : Program) (i : Nat) (a : Addr) : Prop := g.mg (nameAt p i) = some (.ref a) ∧ ∃ fd, IsFn g a fd (bodyAt p i) (scAt p i) (parsAt p i)
/-- names of builtins that the text does not bind -/
def Free (g : Gd) (bs : List Str) : Prop := ∀ x ∈ bs, g.mg x = none

section
variable {C : Cx} {X : XP} {σ : St} {Q : V → St → Prop} {g : Gd} {n : Nat} {sc : Scope}
theorem Fn.kept {g : Gd} {p : Program} {i : Nat} {a : Addr} (h : Fn g p i a) : Kept g (.ref a) :=
  let ⟨_, fd, F⟩ := h; let ⟨o, e, d⟩ := F.at_; .fn e d
theorem TE.callG (hIn : In C g n sc) {p : Program} {i : Nat} {a : Addr} {x : Str} {np pos : Pos} {args : List Expr} (hf : Fn g p i a) (hx : nameAt p i = x) (hl : sc.names.lookup x = some .globalImplicit)
    (h : TArgs C args (fun vs σ2 => CallV C (.ref a) vs Q X σ2) X σ) (hd : (x == ("__debug__" : Str)) = false := by decide +kernel)
    (hp : (backTo pos (starEach args C.env)).any (·.1) = false := by rfl)
    (he : eval (.Call (.Name x np) args [] pos) C.env = (do callWith pos (← eval (.Name x np) C.env) [] (backTo pos (starEach args C.env)) []) := by rfl) : TE C (.Call (.Name x np) args [] pos) Q X σ := by
  have hg := hIn.g
  subst hg
  exact TE.call (TE.name_glob ((hIn.kind x).trans hl) (hx ▸ hf.1) ⟨_, rfl, hf.kept, h⟩ hd) hp he
theorem TE.callB (hIn : In C g n sc) {bs : List Str} {x : Str} {f : Value} {np pos : Pos} {args : List Expr} (hl : sc.names.lookup x = some .globalImplicit) (hfr : Free g bs) (hm : x ∈ bs) (hv : bootBuiltins x = some f)
    (kf : ∀ g, Kept g f) (h : TArgs C args (fun vs σ2 => CallV C f vs Q X σ2) X σ) (hd : (x == ("__debug__" : Str)) = false := by decide +kernel) (hn' : x ≠ "__name__" := by decide +kernel)
    (hp : (backTo pos (starEach args C.env)).any (·.1) = false := by rfl)
    (he : eval (.Call (.Name x np) args [] pos) C.env = (do callWith pos (← eval (.Name x np) C.env) [] (backTo pos (starEach args C.env)) []) := by rfl) : TE C (.Call (.Name x np) args [] pos) Q X σ := by
  have hg := hIn.g
  subst hg
  exact TE.call (TE.name_builtin ((hIn.kind x).trans hl) (hfr x hm) hv ⟨_, rfl, kf _, h⟩ hd hn') hp he
theorem TE.nameB (hIn : In C g n sc) {bs : List Str} {x : Str} {f : Value} {np : Pos} (hl : sc.names.lookup x = some .globalImplicit) (hfr : Free g bs) (hm : x ∈ bs) (hv : bootBuiltins x = some f)
    (h : Q (.con f) σ) (hd : (x == ("__debug__" : Str)) = false := by decide +kernel) (hn' : x ≠ "__name__" := by decide +kernel) : TE C (.Name x np) Q X σ := by
  have hg := hIn.g
  subst hg
  exact TE.name_builtin ((hIn.kind x).trans hl) (hfr x hm) hv h hd hn'
theorem TE.nameL (hIn : In C g n sc) {x : Str} {np : Pos} {v : V} (hl : sc.names.lookup x = some .local) (hv : σ.loc.lookup x = some v) (h : Q v σ) (hd : (x == ("__debug__" : Str)) = false := by decide +kernel) : TE C (.Name x np) Q X σ :=
  TE.name_local ((hIn.kind x).trans hl) hv h hd
theorem TE.nameC (hIn : In C g n sc) {x : Str} {np : Pos} {v : V} (hl : sc.names.lookup x = some .cell) (hv : σ.loc.lookup x = some v) (h : Q v σ) (hd : (x == ("__debug__" : Str)) = false := by decide +kernel) : TE C (.Name x np) Q X σ :=
  TE.name_cell ((hIn.kind x).trans hl) hv h hd
theorem In.stL (hIn : In C g n sc) {x : Str} (e : sc.names.lookup x = some .local) : Stores C x := .loc ((hIn.kind x).trans e)
theorem In.stC (hIn : In C g n sc) (hr : C.ro = []) {x : Str} (e : sc.names.lookup x = some .cell) : Stores C x :=
  let ⟨c, hc⟩ := hIn.cell x e; .cell c ((hIn.kind x).trans e) hc (by rw [hr]; exact List.not_mem_nil)
theorem CallV.fnI (hIn : In C g n sc) {a : Value} {vs : List V} {m : Nat} (h : CallT g m a vs (fun v H' => Q v ⟨σ.loc, H'⟩) (fun cls H' => X cls ⟨σ.loc, H'⟩) σ.H) (hm : m ≤ n) : CallV C a vs Q X σ := by
  have hg := hIn.g
  subst hg
  exact CallV.fn (by rw [hIn.n]; exact hm) hIn.calm h
end

theorem lk_hit {L : List (Str × V)} {x : Str} {v : V} : (setL L x v).lookup x = some v := by rw [lookup_setL, if_pos rfl]
theorem lk_miss {L : List (Str × V)} {x y : Str} {v u : V} (h : y ≠ x) (k : L.lookup y = some u) : (setL L x v).lookup y = some u := by rw [lookup_setL, if_neg h]; exact k
theorem lk_hd {L : List (Str × V)} {x : Str} {v : V} : List.lookup x ((x, v) :: L) = some v := by simp
theorem lk_tl {L : List (Str × V)} {x y : Str} {v u : V} (h : y ≠ x) (k : L.lookup y = some u) : List.lookup y ((x, v) :: L) = some u := by
  rw [List.lookup_cons, beq_eq_false_iff_ne.mpr h]; exact k
theorem Lo.nil {L : List (Str × V)} : Lo [] L := fun _ _ h => by cases h
theorem Lo.cons {L L' : List (Str × V)} {x : Str} {v : V} (h : L'.lookup x = some v) (t : Lo L L') : Lo ((x, v) :: L) L' := by
  intro y u e
  rw [List.lookup_cons] at e
  cases k : y == x with
  | true => rw [k] at e; cases e; rw [eq_of_beq k]; exact h
  | false => rw [k] at e; exact t y u e

section
variable {C : Cx} {X : XP} {σ : St} {Q : V → St → Prop}
theorem TE.str {x : Str} {l : List Nat} {k : Nat} {p : Pos} (e : x.cps.toList = l) (h : Q (.txt false l) σ) : TE C (.Constant (.str x) k p) Q X σ := TE.const_str (by rw [e]; exact h)
theorem TE.byt {b : List UInt8} {l : List Nat} {k : Nat} {p : Pos} (e : b.map UInt8.toNat = l) (h : Q (.txt true l) σ) : TE C (.Constant (.bytes b) k p) Q X σ := TE.const_bytes (by rw [e]; exact h)

theorem Meth.rfind {o : Bool} {l : List Nat} : Meth C σ (.txt o l) "rfind" (tyOf o ++ ".rfind") := by
  cases o
  · exact Meth.str PySem.F.slot_str_rfind PySem.F.type_str_rfind
  · exact Meth.bytes BF.slot_rfind BF.type_rfind
theorem Meth.rstrip {o : Bool} {l : List Nat} : Meth C σ (.txt o l) "rstrip" (tyOf o ++ ".rstrip") := by
  cases o
  · exact Meth.str PySem.F.slot_str_rstrip PySem.F.type_str_rstrip
  · exact Meth.bytes BF.slot_rstrip BF.type_rstrip
theorem call_rfind {o : Bool} {l : List Nat} {c : Nat} (h : Q (.int ((cut c l : Int) - 1)) σ) : CallV C (.builtin (tyOf o ++ ".rfind")) [.txt o l, .txt o [c]] Q X σ := by
  cases o
  · exact call_rfind_str h
  · exact call_rfind_bytes h
theorem call_rstrip {o : Bool} {l : List Nat} {c : Nat} (hn : l.length ≤ 16777216) (h : Q (.txt o (rstripS c l)) σ) : CallV C (.builtin (tyOf o ++ ".rstrip")) [.txt o l, .txt o [c]] Q X σ := by
  cases o
  · exact call_rstrip_str hn h
  · exact call_rstrip_bytes hn h
theorem TE.rfind (o : Bool) {e : Expr} {args : List Expr} {apos pos : Pos} (h : TE C e (fun ov σ1 => ∃ l, ov = .txt o l ∧ TArgs C args (fun vs σ2 => ∃ c, vs = [.txt o [c]] ∧ Q (.int ((cut c l : Int) - 1)) σ2) X σ1) X σ)
    (hp : (backTo pos (starEach args C.env)).any (·.1) = false := by rfl) (hb : attributeBase e "rfind" C.env (eval e C.env) = eval e C.env := by rfl)
    (hf : methodCallForm (args.length + 0) (backTo pos (starEach args C.env)) [] = true := by rfl) (hl : (apos.endLine == pos.line) = true := by rfl) : TE C (.Call (.Attribute e "rfind" apos) args [] pos) Q X σ := by
  refine TE.meth (id := tyOf o ++ ".rfind") (h.mono ?_) hp hb hf hl
  rintro ov σ1 ⟨l, rfl, h⟩
  refine ⟨Meth.rfind, fun p z₀ => (h p z₀).mono ?_⟩
  rintro z xs σ2 _ ⟨vs, r, c, rfl, q⟩
  exact ⟨_, r, call_rfind q⟩
theorem TE.rstrip (o : Bool) {e : Expr} {args : List Expr} {apos pos : Pos} (h : TE C e (fun ov σ1 => ∃ l, ov = .txt o l ∧ TArgs C args (fun vs σ2 => ∃ c, vs = [.txt o [c]] ∧ l.length ≤ 16777216 ∧ Q (.txt o (rstripS c l)) σ2) X σ1) X σ)
    (hp : (backTo pos (starEach args C.env)).any (·.1) = false := by rfl) (hb : attributeBase e "rstrip" C.env (eval e C.env) = eval e C.env := by rfl)
    (hf : methodCallForm (args.length + 0) (backTo pos (starEach args C.env)) [] = true := by rfl) (hl : (apos.endLine == pos.line) = true := by rfl) : TE C (.Call (.Attribute e "rstrip" apos) args [] pos) Q X σ := by
  refine TE.meth (id := tyOf o ++ ".rstrip") (h.mono ?_) hp hb hf hl
  rintro ov σ1 ⟨l, rfl, h⟩
  refine ⟨Meth.rstrip, fun p z₀ => (h p z₀).mono ?_⟩
  rintro z xs σ2 _ ⟨vs, r, c, rfl, hn, q⟩
  exact ⟨_, r, call_rstrip hn q⟩
theorem TE.joinS {e : Expr} {args : List Expr} {apos pos : Pos} (h : TE C e (fun ov σ1 => ∃ l, ov = V.txt false l ∧ TArgs C args (fun vs σ2 => ∃ v ps, vs = [v] ∧ IsL σ2 v (ps.map (V.txt false)) ∧ (ps.map List.length).sum + ps.length * l.length ≤ 16777216 ∧ Q (V.txt false (joinS l ps)) σ2) X σ1) X σ)
    (hp : (backTo pos (starEach args C.env)).any (·.1) = false := by rfl) (hb : attributeBase e "join" C.env (eval e C.env) = eval e C.env := by rfl)
    (hf : methodCallForm (args.length + 0) (backTo pos (starEach args C.env)) [] = true := by rfl) (hl : (apos.endLine == pos.line) = true := by rfl) : TE C (.Call (.Attribute e "join" apos) args [] pos) Q X σ := by
  refine TE.meth (id := "str.join") (h.mono ?_) hp hb hf hl
  rintro ov σ1 ⟨l, rfl, h⟩
  refine ⟨Meth.str PySem.F.slot_str_join PySem.F.type_str_join, fun p z₀ => (h p z₀).mono ?_⟩
  rintro z xs σ2 _ ⟨vs, r, v, ps, rfl, k, hn, q⟩
  exact ⟨_, r, call_join_str k hn q⟩
end

/-- the value of `e` has this one -/
theorem Str1 : (("/" : Str)).cps.toList = [47] := by decide +kernel
theorem Str2 : ((".": Str)).cps.toList = [46] := by decide +kernel
theorem Str3 : (("" : Str)).cps.toList = [] := by decide +kernel
theorem Str4 : (("a" : Str)).cps.toList = [97] := by decide +kernel
theorem Byt1 : (([47] : List UInt8)).map UInt8.toNat = [47] := by decide +kernel
abbrev BI : List Str := ["len", "ord", "chr", "abs", "min", "max", "sum", "isinstance", "issubclass", "sorted", "divmod", "range", "list", "tuple", "bytes", "str", "int", "bool", "type", "enumerate", "bytearray", "map", "iter"]
namespace BI
theorem len : bootBuiltins "len" = some (.builtin "len") := by kernel_rfl
theorem ord : bootBuiltins "ord" = some (.builtin "ord") := by kernel_rfl
theorem chr : bootBuiltins "chr" = some (.builtin "chr") := by kernel_rfl
theorem min : bootBuiltins "min" = some (.builtin "min") := by kernel_rfl
theorem sum : bootBuiltins "sum" = some (.builtin "sum") := by kernel_rfl
theorem isinstance : bootBuiltins "isinstance" = some (.builtin "isinstance") := by kernel_rfl
theorem issubclass : bootBuiltins "issubclass" = some (.builtin "issubclass") := by kernel_rfl
theorem range : bootBuiltins "range" = some (.type "range") := by kernel_rfl
theorem list : bootBuiltins "list" = some (.type "list") := by kernel_rfl
theorem tuple : bootBuiltins "tuple" = some (.type "tuple") := by kernel_rfl
theorem bytes : bootBuiltins "bytes" = some (.type "bytes") := by kernel_rfl
theorem str : bootBuiltins "str" = some (.type "str") := by kernel_rfl
theorem bool : bootBuiltins "bool" = some (.type "bool") := by kernel_rfl
theorem type : bootBuiltins "type" = some (.type "type") := by kernel_rfl
end BI

theorem ite_t {c : Prop} [Decidable c] {A B : Prop} (h : c) (k : A) : if c then A else B := by rw [if_pos h]; exact k
theorem ite_f {c : Prop} [Decidable c] {A B : Prop} (h : ¬ c) (k : B) : if c then A else B := by rw [if_neg h]; exact k
theorem ite_b {c : Prop} [Decidable c] {A B : Prop} (h1 : c → A) (h2 : ¬ c → B) : if c then A else B := by
  by_cases h : c
  · rw [if_pos h]; exact h1 h
  · rw [if_neg h]; exact h2 h
theorem start1 {x : Str} {a : V} {H : Led} : Le ⟨[(x, a)], H⟩ ⟨bindV ([x].zip [a]) [], H⟩ := ⟨Lo.cons lk_hit Lo.nil, List.Sublist.refl _⟩
theorem start2 {x y : Str} {a b : V} {H : Led} (h : x ≠ y) : Le ⟨[(x, a), (y, b)], H⟩ ⟨bindV ([x, y].zip [a, b]) [], H⟩ := ⟨Lo.cons (lk_miss h lk_hit) (Lo.cons lk_hit Lo.nil), List.Sublist.refl _⟩
/-- what is plain about a def -/
structure Plain (d : DefRec) : Prop where
  kind : d.scope.kind = .function
  co : d.scope.isCoroutine = false
  gen : d.scope.isGenerator = false
  pos : d.params.posonlyargs = []
  va : d.params.vararg = none
  ko : d.params.kwonlyargs = []
  kd : d.params.kw_defaults = []
  kw : d.params.kwarg = none
  df : d.params.defaults = []
  names : (d.params.args.map (·.arg)).all (fun x => d.scope.names.lookup x == some .local || d.scope.names.lookup x == some .cell) = true
  nodup : ((cellsFrom 0 d.scope.names []).map (·.1)).Nodup

theorem fn_of {g : Gd} {p : Program} {i : Nat} (P : Plain (recAt p i)) (hbind : ∀ (pm code doc : Value) (xs : List Value), xs.length = (parsAt p i).length → bindArgs (docDef (recAt p i).name (recAt p i).params (recAt p i).body (recAt p i).scope pm code doc) ⟨xs, []⟩ = pure ((parsAt p i).zip xs))
    (h : ∃ a o pm code doc, g.mg (recAt p i).name = some (.ref a) ∧ g.base.get? a = some o ∧ o.data = .func (docDef (recAt p i).name (recAt p i).params (recAt p i).body (recAt p i).scope pm code doc) ∧ g.base.CodeRec code (recAt p i).name) :
    ∃ a, Fn g p i a := by
  obtain ⟨a, o, pm, code, doc, h1, h2, h3, h4⟩ := h
  refine ⟨a, h1, _, ⟨o, h2, h3⟩, h4, rfl, rfl, rfl, rfl, rfl, P.kind, P.co, P.gen, hbind pm code doc, fun x hx => ?_, P.nodup⟩
  have := List.all_eq_true.mp P.names x hx
  simpa using this
def gdOf (prog : Program) (w : World) {p : Program} {loose : List Str} {mean : ExcName → Option Value} {mg mb : Str → Option Value} (s : Shared) (T : Top p loose mean mg mb s.heap) : Gd :=
  { prog := prog, w := w, base := s.heap, os := s.os, mg := mg, mb := mb, hmg := T.g, hmb := T.b, lim := T.nolimit, hbi := T.builtins }
theorem wellInts {P : Params} {h : Heap} : ∀ (xs : List Int) (vs : List Value), WellAll P h vs (ofPys (xs.map .int)) → RepL (fun a => h.get? a) (xs.map .int) vs := by
  intro xs
  induction xs with
  | nil => intro vs w; cases w; exact .nil
  | cons x xs ih =>
    intro vs w
    cases w with
    | cons a b => cases a; exact .cons (.int _ _) (ih _ b)
theorem finish {p : Program} {loose : List Str} {mean : ExcName → Option Value} {mg mb : Str → Option Value} {prog : Program} {w : World} {s : Shared} (T : Top p loose mean mg mb s.heap) (hg : s.gens = #[]) {fa l : Addr} {xs : List Int} {P : Params}
    (hw : Well P s.heap (.ref l) (ofPy (.list (xs.map .int)))) {c : ClaimW} {cl : Str → Option Addr} {mean' : ExcName → Option Value} {args : List WData}
    (main : CallT (gdOf prog w s T) 100 (.ref fa) [.lst (xs.map .int)] (fun v _ => v = .bool true) (fun _ _ => False) [])
    (hn : ∀ cls, c.raises args cls = false) (hp : c.post args (.bool true) args = true) : codeAny (model prog w) callerA (.call (.ref fa) ⟨[.ref l], []⟩) (GoodW c cl mean' args s) s := by
  have rh : RH (gdOf prog w s T) (fun _ => none) [] (fun a => s.heap.get? a) s :=
    ⟨fun _ _ e => e, fun _ _ e => e, fun _ _ e => (by cases e), fun _ _ e => (by cases e), fun _ h => (by cases h), List.nodup_nil, hg, rfl⟩
  have hl : Rep (fun a => s.heap.get? a) (.lst (xs.map .int)) (.ref l) := by
    cases hw with
    | list e ha => exact .lst (n := 0) e (wellInts _ _ ha)
  refine codeAny_mono (main callerA [] (fun _ => none) _ s _ (by decide +kernel) (by decide +kernel) rfl rfl ⟨fun e he => (by cases he)⟩ rh (.cons hl .nil)) ?_
  intro r s' hr
  cases r with
  | ok fl => cases fl with
    | ret val =>
      obtain ⟨z', H', v, lz, r', rv, rfl⟩ := hr
      cases rv
      exact ⟨.inl ⟨_, .bool true, [], rfl, hn, .bool true, hp, fun _ => ⟨List.nodup_nil, fun _ h => (by cases h)⟩⟩, fun b o e => r'.hz b o (r'.hbase b o e), r'.os, r'.gens⟩
    | _ => exact hr.elim
  | error e =>
    obtain ⟨_, _, _, _, _, f, _⟩ := hr
    exact f.no.elim
theorem free_of {p : Program} {loose : List Str} {mean : ExcName → Option Value} {mg mb : Str → Option Value} {prog : Program} {w : World} {s : Shared} (T : Top p loose mean mg mb s.heap)
    (key : ∀ x ∈ BI, x ∉ startupNames ∧ x ∉ loose ∧ x ∉ (recsOf p).map (·.name) ∧ x ∉ (litsOf p).map (·.1) ∧ x ∉ (clssOf p loose).map (·.name)) : Free (gdOf prog w s T) BI :=
  fun x hx => let ⟨a, b, c, d, e⟩ := key x hx; T.free x a b c d e
end PL

end
section
open PySem PySem.Calls PyProof.Rows
set_option Elab.async false
set_option linter.unusedVariables false
set_option linter.unusedSimpArgs false
set_option maxRecDepth 100000
namespace PL

theorem clip_nat (n k : Nat) : clipAt n (k : Int) = min k n := by
  unfold clipAt
  (repeat' split) <;> omega
theorem sl_to {α : Type} (l : List α) (j : Nat) : sl l none (some (j : Int)) = l.take j := by
  simp only [sl, Option.elim_none, Option.elim_some, List.drop_zero, clip_nat, Nat.sub_zero]
  by_cases h : j ≤ l.length
  · rw [Nat.min_eq_left h]
  · rw [Nat.min_eq_right (by omega), List.take_of_length_le (Nat.le_refl _), List.take_of_length_le (by omega)]
theorem sl_from {α : Type} (l : List α) (i : Nat) : sl l (some (i : Int)) none = l.drop i := by
  simp only [sl, Option.elim_none, Option.elim_some, clip_nat]
  by_cases h : i ≤ l.length
  · rw [Nat.min_eq_left h]; exact List.take_of_length_le (by simp)
  · rw [Nat.min_eq_right (by omega), List.drop_eq_nil_of_le (by omega), List.drop_eq_nil_of_le (by omega)]; simp
theorem sl_mid {α : Type} (l : List α) (i j : Nat) (h : i ≤ j) (hj : j ≤ l.length) : sl l (some (i : Int)) (some (j : Int)) = (l.drop i).take (j - i) := by
  simp only [sl, Option.elim_some, clip_nat]
  rw [Nat.min_eq_left (show i ≤ l.length by omega), Nat.min_eq_left hj]

theorem upTo_map : ∀ (n : Nat) (a : Nat), upTo (a : Int) n = (List.range n).map fun k : Nat => V.int ((a + k : Nat) : Int) := by
  intro n a
  apply List.ext_getElem?
  intro i
  rw [upGet, List.getElem?_map]
  by_cases h : i < n
  · rw [if_pos h, List.getElem?_range h]; simp
  · rw [if_neg h, List.getElem?_eq_none (by simpa using h)]; rfl
section
variable {C : Cx} {X : XP} {σ : St} {Q : V → St → Prop}
theorem Walk.rngAB {a b : Nat} (ha : a ≤ 1000000) (hb : b ≤ 1000000) : Walk C (.rng (a : Int) (b : Int) 1) ((List.range (b - a)).map fun k : Nat => V.int ((a + k : Nat) : Int)) (fun _ => True) := by
  have := Walk.rng (C := C) (small_range (a := a) (b := b) (by omega) (by omega) (by omega) (by omega))
  rw [show ((b : Int) - a).toNat = b - a by omega, upTo_map] at this
  exact this
theorem Walk.rngN {b : Nat} (hb : b ≤ 1000000) : Walk C (.rng 0 (b : Int) 1) ((List.range b).map fun k : Nat => V.int (k : Int)) (fun _ => True) := by
  have := Walk.rngAB (C := C) (a := 0) (b := b) (by omega) hb
  simpa using this
theorem swaps_cell {e : Expr} {x : Str} {p : Pos} {n : Nat} (h : C.env.kindOf x = some .cell) : swapsWith e (some (.Name x p)) n C.env = pure false := by
  have e1 : (C.env.kindOf x == some NameKind.local) = false := by rw [h]; rfl
  unfold swapsWith
  split <;> simp [e1]
theorem TS.assignC {g : Gd} {n : Nat} {sc : Scope} (hIn : In C g n sc) (hr : C.ro = []) {x : Str} {p p' : Pos} {e : Expr} {Q : Fl → St → Prop} (k : sc.names.lookup x = some .cell) (h : TE C e (fun v σ1 => Q .next ⟨setL σ1.loc x v, σ1.H⟩) X σ) : TS C (.Assign [.Name x p'] e p) Q X σ :=
  TS.assign (hIn.stC hr k) h (swaps_cell ((hIn.kind x).trans k))
theorem TE.cut {P : V → St → Prop} {e : Expr} (h : TE C e P X σ) (k : ∀ v σ', P v σ' → Q v σ') : TE C e Q X σ := h.mono k
end
theorem pick_map {α β : Type} (f : α → β) (l : List α) (lo hi st : Option Int) : pick (l.map f) lo hi st = (pick l lo hi st).map f := by
  unfold pick
  rw [List.length_map, List.map_filterMap]
  congr 1
  funext i
  simp
theorem joinS_nil : ∀ l : List Nat, joinS [] (l.map fun c => [c]) = l
  | [] => rfl
  | [c] => rfl
  | c :: d :: r => by
    show [c] ++ [] ++ joinS [] ((d :: r).map fun c => [c]) = _
    rw [joinS_nil (d :: r)]; rfl
theorem sum_ones (l : List Nat) : ((l.map fun c => [c]).map List.length).sum = l.length := by
  induction l with
  | nil => rfl
  | cons a r ih => simp only [List.map_cons, List.sum_cons, List.length_cons, ih, List.length_nil]; omega

/-- a list of counts -/
def cnt (n : Nat) (F : Nat → Int) : List V := (List.range n).map fun k => V.int (F k)
theorem cnt_length (n : Nat) (F : Nat → Int) : (cnt n F).length = n := by simp [cnt]
theorem cnt_get {n : Nat} {F : Nat → Int} {k : Nat} (h : k < n) : (cnt n F)[k]? = some (.int (F k)) := by
  unfold cnt; rw [List.getElem?_map, List.getElem?_range h]; rfl
theorem cnt_congr {n : Nat} {F G : Nat → Int} (h : ∀ k, k < n → F k = G k) : cnt n F = cnt n G := by
  unfold cnt
  exact List.map_congr_left fun k hk => by rw [h k (List.mem_range.mp hk)]
theorem cnt_set {n : Nat} {F : Nat → Int} {k : Nat} {v : Int} (h : k < n) : (cnt n F).set k (.int v) = cnt n (fun x => if x = k then v else F x) := by
  apply List.ext_getElem?
  intro i
  rw [List.getElem?_set]
  by_cases hi : i < n
  · rw [cnt_get hi, cnt_get hi]
    by_cases e : k = i
    · subst e; rw [if_pos rfl, if_pos rfl, cnt_length, if_pos h]
    · rw [if_neg e, if_neg (Ne.symm e)]
  · have e1 : (cnt n F)[i]? = none := List.getElem?_eq_none (by rw [cnt_length]; omega)
    have e2 : (cnt n (fun x => if x = k then v else F x))[i]? = none := List.getElem?_eq_none (by rw [cnt_length]; omega)
    rw [e1, e2, if_neg (by omega)]

theorem led2 {a b : Addr} {n : Nat} {F F' G G' : Nat → Int} (h1 : ∀ k, k < n → F k = F' k) (h2 : ∀ k, k < n → G k = G' k) : ([(a, AO.list (cnt n F)), (b, AO.list (cnt n G))] : Led) = [(a, AO.list (cnt n F')), (b, AO.list (cnt n G'))] := by
  rw [cnt_congr h1, cnt_congr h2]
mutual
theorem eqv_refl : ∀ {v : V}, plainV v = true → PyData.eqv (toD v) (toD v) = true
  | .none, _ => rfl
  | .bool b, _ => by simp [toD, PyData.eqv]
  | .int i, _ => by simp [toD, PyData.eqv]
  | .txt o l, _ => by simp [toD, PyData.eqv]
  | .tup vs, p => by simpa [toD, PyData.eqv] using eqvs_refl (by simpa [plainV] using p)
  | .lst vs, p => by simpa [toD, PyData.eqv] using eqvs_refl (by simpa [plainV] using p)
  | .ref _, p => by simp [plainV] at p
  | .con _, p => by simp [plainV] at p
  | .rng _ _ _, p => by simp [plainV] at p
  | .opq _, p => by simp [plainV] at p
theorem eqvs_refl : ∀ {vs : List V}, plainVs vs = true → PyData.eqvAll (toDs vs) (toDs vs) = true
  | [], _ => rfl
  | v :: r, p => by
    have p1 : plainV v = true ∧ plainVs r = true := by simpa [plainVs] using p
    simp [toDs, PyData.eqvAll, eqv_refl p1.1, eqvs_refl p1.2]
end
theorem plainVs_all : ∀ {vs : List V}, (∀ v ∈ vs, plainV v = true) → plainVs vs = true
  | [], _ => rfl
  | v :: r, h => by simp [plainVs, h v (by simp), plainVs_all fun x hx => h x (List.mem_cons_of_mem _ hx)]
theorem deepVs_le {n : Nat} : ∀ {vs : List V}, (∀ v ∈ vs, deepV v ≤ n) → deepVs vs ≤ n
  | [], _ => Nat.zero_le _
  | v :: r, h => by
    have h1 := h v (by simp)
    have h2 := deepVs_le (vs := r) fun x hx => h x (List.mem_cons_of_mem _ hx)
    simp [deepVs]; omega
section
variable {C : Cx} {X : XP} {σ : St} {Q : V → St → Prop}
/-- two ways of telling one value -/
theorem Cmp.eq_same {a b : V} (e : a = b) (ha : plainV a = true) (da : deepV a ≤ 64) (h : Q (.bool true) σ) : Cmp C .Eq a b Q X σ := by
  subst e
  exact Cmp.eq_data ha ha da da (by rw [eqv_refl ha]; exact h)
end
theorem lf_nil {L' : List (Str × V)} {names : List (Str × NameKind)} : ∀ x u, ([] : List (Str × V)).lookup x = some u → L'.lookup x = some u ∧ (x, NameKind.free) ∈ names := fun _ _ h => by cases h
theorem lf_cons {L L' : List (Str × V)} {names : List (Str × NameKind)} {x : Str} {v : V} (h : L'.lookup x = some v) (hm : (x, NameKind.free) ∈ names) (t : ∀ x u, L.lookup x = some u → L'.lookup x = some u ∧ (x, NameKind.free) ∈ names) :
    ∀ y u, List.lookup y ((x, v) :: L) = some u → L'.lookup y = some u ∧ (y, NameKind.free) ∈ names := by
  intro y u e
  rw [List.lookup_cons] at e
  cases k : y == x with
  | true => rw [k] at e; cases e; rw [eq_of_beq k]; exact ⟨h, hm⟩
  | false => rw [k] at e; exact t y u e
theorem filterMap_some {α β : Type} (l : List α) (f : α → β) : l.filterMap (fun x => some (f x)) = l.map f := by
  induction l with
  | nil => rfl
  | cons a r ih => simp
theorem Le.both {L : List (Str × V)} {H : Led} {σ : St} {x : Str} {v : V} (h : Le ⟨L, H⟩ σ) : Le ⟨PL.setL L x v, H⟩ ⟨PL.setL σ.loc x v, σ.H⟩ := ⟨h.loc.set, h.led⟩
theorem Le.ofEq {L L' : List (Str × V)} {H H' : Led} (h : Lo L L') (e : H = H') : Le ⟨L, H⟩ ⟨L', H'⟩ := ⟨h, e ▸ List.Sublist.refl _⟩
theorem range_item {m i : Nat} {φ : Nat → V} {u : V} (h : ((List.range m).map φ)[i]? = some u) : i < m ∧ u = φ i := by
  rw [List.getElem?_map] at h
  by_cases hi : i < m
  · rw [List.getElem?_range hi] at h; cases h; exact ⟨hi, rfl⟩
  · rw [List.getElem?_eq_none (by simpa using hi)] at h; cases h
section
variable {C : Cx} {X : XP} {σ : St}
/-- `for x in range(a, b)` -/
theorem TS.forR {x : Str} {p : Pos} {iter : Expr} {body : List Stmt} {pos : Pos} {Q : Fl → St → Prop} (hh : C.A.handled = none) (k : Stores C x)
    (h : TE C iter (fun v σ1 => ∃ (a b : Nat) (L : List (Str × V)) (HH : Nat → Led), v = .rng (a : Int) (b : Int) 1 ∧ a ≤ 1000000 ∧ b ≤ 1000000 ∧ Le ⟨L, HH 0⟩ σ1 ∧
      (∀ d, d < b - a → TSs C body (fun f σ'' => match f with | .next => Le ⟨L, HH (d + 1)⟩ σ'' | .cont => Le ⟨L, HH (d + 1)⟩ σ'' | .brk => Q .next σ'' | .ret w => Q (.ret w) σ'') X ⟨setL L x (.int ((a + d : Nat) : Int)), HH d⟩) ∧
      (∀ σ, Le ⟨L, HH (b - a)⟩ σ → Q .next σ)) X σ)
    (hs : ∀ x, foldedSetIterable iter C.env x = pure x := by intro _; rfl) : TS C (.For (.Name x p) iter body [] pos) Q X σ := by
  refine TS.for_ hh (h.mono ?_) hs
  rintro v σ1 ⟨a, b, L, HH, rfl, ha, hb, h0, turn, fin⟩
  refine ⟨_, _, Walk.rngAB ha hb, fun d σ => Le ⟨L, HH d⟩ σ, h0, fun _ _ _ => trivial, ?_, ?_⟩
  · intro d u σ hu hle
    obtain ⟨hd, rfl⟩ := range_item hu
    exact TAs.name k (TSs.le hle.both (turn d hd))
  · intro σ hle
    rw [List.length_map, List.length_range] at hle
    exact TSs.nil (fin σ hle)
end
end PL

end
open PySem PySem.Calls PyProof.Rows
set_option maxRecDepth 100000
set_option maxHeartbeats 4000000
local macro_rules | `(tactic| walk_at "pl lk") => `(tactic| first | with_reducible exact PL.lk_hit | with_reducible exact PL.lk_hd | ((with_reducible apply PL.lk_miss); (decide +kernel); walk_at "pl lk") | ((with_reducible apply PL.lk_tl); (decide +kernel); walk_at "pl lk"))
local macro_rules | `(tactic| walk_at "pl lo") => `(tactic| first | with_reducible exact PL.Lo.nil | (refine PL.Lo.cons ?_ ?_; walk_at "pl lk"; walk_at "pl lo"))
local macro_rules | `(tactic| walk_at "pl lf") => `(tactic| first | exact PL.lf_nil | (refine PL.lf_cons ?_ (by decide +kernel) ?_; walk_at "pl lk"; walk_at "pl lf"))
local macro_rules | `(tactic| walk_at "pl comp") => `(tactic| (constructor <;> decide +kernel))
local macro_rules | `(tactic| walk_at "pl in") => `(tactic| with_reducible (first | exact PL.BI.len | exact PL.BI.ord | exact PL.BI.chr | exact PL.BI.abs | exact PL.BI.min | exact PL.BI.max | exact PL.BI.sum | exact PL.BI.isinstance | exact PL.BI.issubclass | exact PL.BI.divmod | exact PL.BI.range | exact PL.BI.list | exact PL.BI.tuple | exact PL.BI.bytes | exact PL.BI.str | exact PL.BI.bool | exact PL.BI.type | exact PL.BI.bytearray))
local macro_rules | `(tactic| walk_at "pl st") => `(tactic| first | exact PL.In.stL (by assumption) (by kernel_rfl!) | exact PL.In.stC (by assumption) (by assumption) (by kernel_rfl!))
local macro_rules | `(tactic| walk_at "pl kept") => `(tactic| intro _; first | exact PL.Kept.bi _ | exact PL.Kept.ty _)
local macro_rules | `(tactic| walk_at "pl nm") => `(tactic| first
  | refine PL.TE.nameL (by assumption) (by kernel_rfl!) (by walk_at "pl lk") ?_
  | refine PL.TE.nameC (by assumption) (by kernel_rfl!) (by walk_at "pl lk") ?_
  | refine PL.TE.nameB (bs := PL.BI) (by assumption) (by kernel_rfl!) (by assumption) (by decide +kernel) (by walk_at "pl in") ?_)
local macro_rules | `(tactic| walk_at "pl TE") => `(tactic| first
  | ((with_reducible show PL.TE _ (Expr.Name _ _) _ _ _); walk_at "pl nm")
  | ((with_reducible show PL.TE _ (Expr.Compare _ _ _ _) _ _ _); refine PL.TE.cmp ?_)
  | ((with_reducible show PL.TE _ (Expr.Call (Expr.Name _ _) _ _ _) _ _ _); refine PL.TE.callB (bs := PL.BI) (by assumption) (by kernel_rfl!) (by assumption) (by decide +kernel) (by walk_at "pl in") (by walk_at "pl kept") ?_)
  | with_reducible (first
    | refine PL.TE.const_int ?_
    | refine PL.TE.binop ?_
    | refine PL.TE.subsl ?_
    | refine PL.TE.sub ?_
    | refine PL.TE.str (by (first | exact PL.Str1 | exact PL.Str2 | exact PL.Str3 | exact PL.Str4 | exact PL.Str5)) ?_
    | refine PL.TE.byt (by (first | exact PL.Byt1 | exact PL.Byt2 | exact PL.Byt3 | exact PL.Byt4)) ?_
    | refine PL.TE.const_bool ?_
    | refine PL.TE.const_none ?_
    | refine PL.TE.unop ?_
    | refine PL.TE.ifexp ?_
    | refine PL.TE.tuple ?_
    | refine PL.TE.listF ?_))
local macro_rules | `(tactic| walk_at "pl TS") => `(tactic| first
  | ((with_reducible show PL.TS _ (Stmt.Assign _ _ _) _ _ _); refine PL.TS.assign (by walk_at "pl st") ?_)
  | ((with_reducible show PL.TS _ (Stmt.AugAssign (Expr.Name _ _) _ _ _) _ _ _); refine PL.TS.aug (by walk_at "pl st") (by walk_at "pl lk") ?_)
  | ((with_reducible show PL.TS _ (Stmt.AugAssign _ _ _ _) _ _ _); refine PL.TS.augSub ?_)
  | ((with_reducible show PL.TS _ (Stmt.Expr _ _) _ _ _); refine PL.TS.expr ?_)
  | with_reducible (first
    | refine PL.TS.ret ?_
    | refine PL.TS.if_ ?_
    | refine PL.TS.cont ?_
    | refine PL.TS.brk ?_
    | refine PL.TS.pass ?_))
local macro_rules | `(tactic| walk_at "pl op") => `(tactic| with_reducible (first
  | refine PL.Bin.add_int ?_
  | refine PL.Bin.sub_int ?_
  | refine PL.Inp.add_int ?_
  | refine PL.Inp.sub_int ?_
  | refine PL.Un.neg_int ?_
  | refine PL.Cmp.lt_int ?_
  | refine PL.Cmp.gt_int ?_
  | refine PL.Cmp.le_int ?_
  | refine PL.Cmp.ge_int ?_
  | refine PL.Cmp.eq_int ?_
  | refine PL.Cmp.ne_int ?_
  | refine PL.Cmp.eq_bool ?_
  | refine PL.Cmp.ne_bool ?_
  | refine PL.Cmp.eq_txt ?_
  | refine PL.Cmp.ne_txt ?_
  | refine PL.Tru.bool ?_
  | refine PL.Tru.int ?_
  | refine PL.Tru.none ?_))
local macro_rules | `(tactic| walk_at "pl e") => `(tactic| first
  | ((with_reducible show PL.TE _ _ _ _ _); walk_at "pl TE")
  | ((with_reducible show PL.TS _ _ _ _ _); walk_at "pl TS")
  | ((with_reducible show PL.TArgs _ (_ :: _) _ _ _); refine PL.TArgs.cons ?_)
  | ((with_reducible show PL.TB _ (Expr.Compare _ _ _ _) _ _ _); refine PL.TB.cmp ?_)
  | with_reducible (first
    | refine PL.TArgs.nil ?_
    | refine PL.TOpt.none ?_
    | refine PL.TOpt.some ?_
    | refine PL.TB.not ?_
    | refine PL.TB.boolop ?_
    | refine PL.TBall.and_nil ?_
    | refine PL.TBall.or_nil ?_
    | refine PL.TBall.and_cons ?_
    | refine PL.TBall.or_cons ?_
    | refine PL.TSs.nil ?_
    | refine PL.TSs.cons ?_)
  | ((with_reducible show PL.TB _ _ _ _ _); refine PL.TB.val ?_)
  | walk_at "pl op"
  | refine ⟨_, rfl, ?_⟩)

section
open PySem PySem.Calls PyProof.Rows
set_option Elab.async false
set_option linter.unusedVariables false
set_option linter.unusedSimpArgs false
set_option maxRecDepth 100000

namespace PL
abbrev P2 := PySem.Challenge.pw_km0084_02

theorem pars11 : parsAt P2 11 = [("path" : Str)] := by kernel_rfl
theorem pars9 : parsAt P2 9 = [("path" : Str)] := by kernel_rfl
theorem pars12 : parsAt P2 12 = [("p" : Str)] := by kernel_rfl
theorem pars13 : parsAt P2 13 = [("p" : Str)] := by kernel_rfl


theorem get_sep_ok {g : Gd} {a : Addr} (hf : Fn g P2 11 a) (hb : Free g BI) {o : Bool} {l : List Nat} {Q : V → Led → Prop} {X : XL} {H : Led} (h : Q (.txt o [47]) H) : CallT g (0 + 1) (.ref a) [.txt o l] Q X H := by
  obtain ⟨hm, fd, F⟩ := hf
  refine CallT.def_ F (by rw [pars11]; rfl) fun C hC hro => ?_
  rw [pars11]
  show TSs C _ _ _ ⟨setL [] "path" (.txt o l), H⟩
  refine TSs.cons ?_
  repeat (walk_at "pl e")
  refine call_isinstance_txt (p := true) ?_
  walk_at "pl e"
  cases o
  · refine ite_f (by decide) ?_
    repeat (walk_at "pl e")
    exact h
  · refine ite_t (by decide) ?_
    repeat (walk_at "pl e")
    exact h
theorem fspath_ok {g : Gd} {a : Addr} (hf : Fn g P2 9 a) (hb : Free g BI) {o : Bool} {l : List Nat} {Q : V → Led → Prop} {X : XL} {H : Led} (h : Q (.txt o l) H) : CallT g (0 + 1) (.ref a) [.txt o l] Q X H := by
  obtain ⟨hm, fd, F⟩ := hf
  refine CallT.def_ F (by rw [pars9]; rfl) fun C hC hro => ?_
  rw [pars9]
  show TSs C _ _ _ ⟨setL [] "path" (.txt o l), H⟩
  refine TSs.cons ?_
  repeat (walk_at "pl e")
  refine call_type ?_
  repeat (walk_at "pl e")
  refine ⟨by simp, ?_⟩
  repeat (walk_at "pl e")
  refine call_issubclass_pair ?_
  repeat (walk_at "pl e")
  refine ite_t rfl ?_
  repeat (walk_at "pl e")
  exact h
theorem basename_ok {g : Gd} {a b c : Addr} (hf : Fn g P2 12 a) (hf9 : Fn g P2 9 b) (hf11 : Fn g P2 11 c) (hb : Free g BI) {o : Bool} {l : List Nat} (hn : l.length ≤ 16777216) {Q : V → Led → Prop} {X : XL} {H : Led}
    (h : Q (.txt o (sl l (some (cut 47 l : Int)) none)) H) : CallT g (1 + 1) (.ref a) [.txt o l] Q X H := by
  obtain ⟨hm, fd, F⟩ := hf
  refine CallT.def_ F (by rw [pars12]; rfl) fun C hC hro => ?_
  rw [pars12]
  show TSs C _ _ _ ⟨setL [] "p" (.txt o l), H⟩
  refine TSs.cons ?_
  repeat (walk_at "pl e")
  refine TE.callG hC hf9 (by kernel_rfl) (by kernel_rfl) ?_
  repeat (walk_at "pl e")
  refine CallV.fnI hC (fspath_ok hf9 hb ?_) (by decide)
  repeat (walk_at "pl e")
  refine TE.callG hC hf11 (by kernel_rfl) (by kernel_rfl) ?_
  repeat (walk_at "pl e")
  refine CallV.fnI hC (get_sep_ok hf11 hb ?_) (by decide)
  repeat (walk_at "pl e")
  refine TE.rfind o ?_
  repeat (walk_at "pl e")
  refine Slc.txt hn ?_
  rw [Int.sub_add_cancel]
  exact h
theorem dirname_ok {g : Gd} {a b c : Addr} (hf : Fn g P2 13 a) (hf9 : Fn g P2 9 b) (hf11 : Fn g P2 11 c) (hb : Free g BI) {o : Bool} {l : List Nat} (hn : l.length ≤ 1000000) {Q : V → Led → Prop} {X : XL} {H : Led}
    (h : ∀ hd, hd = sl l none (some (cut 47 l : Int)) → Q (.txt o (if hd ≠ [] ∧ hd ≠ List.replicate hd.length 47 then rstripS 47 hd else hd)) H) : CallT g (1 + 1) (.ref a) [.txt o l] Q X H := by
  obtain ⟨hm, fd, F⟩ := hf
  refine CallT.def_ F (by rw [pars13]; rfl) fun C hC hro => ?_
  rw [pars13]
  show TSs C _ _ _ ⟨setL [] "p" (.txt o l), H⟩
  refine TSs.cons ?_
  repeat (walk_at "pl e")
  refine TE.callG hC hf9 (by kernel_rfl) (by kernel_rfl) ?_
  repeat (walk_at "pl e")
  refine CallV.fnI hC (fspath_ok hf9 hb ?_) (by decide)
  repeat (walk_at "pl e")
  refine TE.callG hC hf11 (by kernel_rfl) (by kernel_rfl) ?_
  repeat (walk_at "pl e")
  refine CallV.fnI hC (get_sep_ok hf11 hb ?_) (by decide)
  repeat (walk_at "pl e")
  refine TE.rfind o ?_
  repeat (walk_at "pl e")
  refine Slc.txt (by omega) ?_
  rw [Int.sub_add_cancel]
  have hlen := sl_length_le l none (some (cut 47 l : Int))
  generalize sl l none (some (cut 47 l : Int)) = hd at h hlen
  repeat (walk_at "pl e")
  have h := h hd rfl
  refine Tru.txt (by omega) ?_
  refine ite_b (fun c1 => ?_) (fun c1 => ?_)
  · repeat (walk_at "pl e")
    refine call_len_txt (by omega) ?_
    refine Bin.mul_txt (by omega) (by omega) ?_
    repeat (walk_at "pl e")
    refine ite_b (fun c2 => ?_) (fun c2 => ?_)
    · repeat (walk_at "pl e")
      refine ite_t rfl ?_
      repeat (walk_at "pl e")
      refine TE.rstrip o ?_
      repeat (walk_at "pl e")
      refine ⟨by omega, ?_⟩
      repeat (walk_at "pl e")
      rw [if_pos] at h
      · exact h
      · exact ⟨by simpa using c1, by simpa using c2⟩
    · repeat (walk_at "pl e")
      refine ite_f (by decide) ?_
      repeat (walk_at "pl e")
      rw [if_neg] at h
      · exact h
      · exact fun ⟨_, e⟩ => c2 (by simpa using e)
  · repeat (walk_at "pl e")
    refine ite_f (by decide) ?_
    repeat (walk_at "pl e")
    rw [if_neg] at h
    · exact h
    · exact fun ⟨e, _⟩ => c1 (by simpa using e)
end PL

end
section
open PySem PySem.Calls PyProof.Rows
set_option Elab.async false
set_option linter.unusedVariables false
set_option linter.unusedSimpArgs false
set_option maxRecDepth 100000

namespace PL
theorem pars15 : parsAt P2 15 = [("x" : Str)] := by kernel_rfl
theorem pars16 : parsAt P2 16 = [("text" : Str), "k", "slash"] := by kernel_rfl
theorem pars17 : parsAt P2 17 = [("text" : Str), "k"] := by kernel_rfl

def signC (x : Int) : Nat := ([47, 47, 97, 46, (48 + (x.fdiv 5).fmod 208).toNat] : List Nat).getD (x.fmod 5).toNat 0
theorem fmod_bound (x : Int) {b : Int} (hb : 0 < b) : 0 ≤ x.fmod b ∧ x.fmod b < b := ⟨Int.fmod_nonneg_of_pos x hb, Int.fmod_lt_of_pos x hb⟩
theorem signC_lt (x : Int) : signC x < 256 := by
  have h1 := fmod_bound (x.fdiv 5) (b := 208) (by decide)
  have h2 := fmod_bound x (b := 5) (by decide)
  unfold signC
  generalize hj : (x.fmod 5).toNat = j
  have : j < 5 := by omega
  match j, this with
  | 0, _ => show 47 < 256; omega
  | 1, _ => show 47 < 256; omega
  | 2, _ => show 97 < 256; omega
  | 3, _ => show 46 < 256; omega
  | 4, _ => show (48 + (x.fdiv 5).fmod 208).toNat < 256; omega
theorem sign_ok {g : Gd} {a : Addr} (hf : Fn g P2 15 a) (hb : Free g BI) {x : Int} {Q : V → Led → Prop} {X : XL} {H : Led} (h : Q (.txt false [signC x]) H) : CallT g (0 + 1) (.ref a) [.int x] Q X H := by
  obtain ⟨hm, fd, F⟩ := hf
  refine CallT.def_ F (by rw [pars15]; rfl) fun C hC hro => ?_
  rw [pars15]
  show TSs C _ _ _ ⟨setL [] "x" (.int x), H⟩
  refine TSs.cons ?_
  have h1 := fmod_bound (x.fdiv 5) (b := 208) (by decide)
  have h2 := fmod_bound x (b := 5) (by decide)
  repeat (walk_at "pl e")
  refine Bin.fdiv_int (by decide) (PyProof.noPylong_of_log2 (by decide +kernel)) ?_
  repeat (walk_at "pl e")
  refine Bin.mod_int (by decide) ?_
  repeat (walk_at "pl e")
  refine call_chr (by omega) (by omega) ?_
  repeat (walk_at "pl e")
  refine ⟨by simp, ?_⟩
  repeat (walk_at "pl e")
  refine Bin.mod_int (by decide) ?_
  refine Item.list (j := (x.fmod 5).toNat) (u := .txt false [signC x]) (.fz _) (by simp) ⟨?_, ?_⟩ ?_ h
  · rw [if_neg (by omega)]; omega
  · show _ < 5; omega
  · unfold signC
    have : (x.fmod 5).toNat < 5 := by omega
    generalize (x.fmod 5).toNat = j at this
    match j, this with
    | 0, _ => rfl
    | 1, _ => rfl
    | 2, _ => rfl
    | 3, _ => rfl
    | 4, _ => rfl

def nextS (l : List Nat) (slash : Bool) (k : Nat) : Nat := k + ((l.drop k).takeWhile fun c => (c == 47) != slash).length
theorem nextS_go {l : List Nat} {slash : Bool} {k c : Nat} (h : l[k]? = some c) (hc : ((c == 47) != slash) = true) : nextS l slash k = nextS l slash (k + 1) := by
  obtain ⟨hk, e⟩ := List.getElem?_eq_some_iff.mp h
  unfold nextS
  rw [List.drop_eq_getElem_cons hk, e, List.takeWhile_cons, if_pos hc]
  simp; omega
theorem nextS_stop {l : List Nat} {slash : Bool} {k c : Nat} (h : l[k]? = some c) (hc : ((c == 47) != slash) = false) : nextS l slash k = k := by
  obtain ⟨hk, e⟩ := List.getElem?_eq_some_iff.mp h
  unfold nextS
  rw [List.drop_eq_getElem_cons hk, e, List.takeWhile_cons, if_neg (by rw [hc]; decide)]
  simp
theorem nextS_end {l : List Nat} {slash : Bool} {k : Nat} (h : l.length ≤ k) : nextS l slash k = k := by
  unfold nextS; rw [List.drop_eq_nil_of_le h]; simp

theorem next_ok {g : Gd} {a : Addr} (hf : Fn g P2 16 a) (hb : Free g BI) {l : List Nat} {k : Nat} {slash : Bool} (hn : l.length ≤ 16777216) {Q : V → Led → Prop} {X : XL} {H : Led} (h : Q (.int (nextS l slash k)) H) :
    CallT g (0 + 1) (.ref a) [.txt false l, .int k, .bool slash] Q X H := by
  obtain ⟨hm, fd, F⟩ := hf
  refine CallT.def_ F (by rw [pars16]; rfl) fun C hC hro => ?_
  rw [pars16]
  refine TSs.le (σ' := ⟨[("text", .txt false l), ("k", .int k), ("slash", .bool slash)], H⟩) ⟨?_, List.Sublist.refl _⟩ ?_
  · show Lo _ (setL (setL (setL [] _ _) _ _) _ _)
    walk_at "pl lo"
  refine TSs.cons ?_
  refine TS.while_ (fun m σ => ∃ j : Nat, m = l.length - j ∧ nextS l slash j = nextS l slash k ∧ Le ⟨[("text", .txt false l), ("k", .int j), ("slash", .bool slash)], H⟩ σ) _ ⟨k, rfl, rfl, Le.refl _⟩ ?_
  rintro m σ ⟨j, rfl, hj, hle⟩
  refine TB.le hle ?_
  repeat (walk_at "pl e")
  refine call_len_txt (by omega) ?_
  repeat (walk_at "pl e")
  refine ite_b (fun c1 => ?_) (fun c1 => ?_)
  · have hj' : j < l.length := by simpa using c1
    have hc : l[j]? = some l[j] := List.getElem?_eq_getElem hj'
    repeat (walk_at "pl e")
    refine Item.str hn ⟨by rw [if_neg (by omega)], hj'⟩ hc ?_
    repeat (walk_at "pl e")
    refine ite_b (fun c2 => ?_) (fun c2 => ?_)
    · repeat (walk_at "pl e")
      refine ite_t rfl ?_
      repeat (walk_at "pl e")
      refine ⟨l.length - (j + 1), by omega, j + 1, rfl, (nextS_go hc (by simpa using c2)).symm.trans hj, ?_, List.Sublist.refl _⟩
      rw [show ((j + 1 : Nat) : Int) = (j : Int) + 1 from rfl]
      walk_at "pl lo"
    · refine ite_f (by decide) ?_
      repeat (walk_at "pl e")
      rw [← hj, nextS_stop hc (by simpa using c2)] at h
      exact h
  · refine ite_f (by decide) ?_
    repeat (walk_at "pl e")
    have hj' : l.length ≤ j := by simpa using c1
    rw [← hj, nextS_end hj'] at h
    exact h
end PL

end
section
open PySem PySem.Calls PyProof.Rows
set_option Elab.async false
set_option linter.unusedVariables false
set_option linter.unusedSimpArgs false
set_option maxRecDepth 100000

namespace PL
theorem bits_small {i : Int} (h : i.natAbs < 1073741824) : Builtin.Int.intBits i ≤ 64 := by
  unfold Builtin.Int.intBits
  by_cases h0 : i.natAbs = 0
  · have : i = 0 := by omega
    subst this; decide
  · have h30 : i.natAbs.log2 < 30 := (Nat.log2_lt h0).mpr h
    split <;> omega
theorem mulOk_small {i j : Int} (hi : i.natAbs < 1073741824) (hj : j.natAbs < 1073741824) : IntMulOk i j := PyProof.Rows.mulOk_of_bits (bits_small hi) (bits_small hj) (by decide)

def backS (l : List Nat) (k b : Nat) : Nat := b + ((l.take (k - b)).reverse.takeWhile (· == 47)).length
theorem backS_go {l : List Nat} {k b : Nat} (hb : b < k) (h : l[k - b - 1]? = some 47) : backS l k b = backS l k (b + 1) := by
  obtain ⟨hk, e⟩ := List.getElem?_eq_some_iff.mp h
  unfold backS
  have e1 : l.take (k - b) = l.take (k - (b + 1)) ++ [47] := by
    have e2 : k - b = (k - (b + 1)) + 1 := by omega
    rw [e2, List.take_add_one]
    have e3 : k - (b + 1) = k - b - 1 := by omega
    rw [e3, h]; rfl
  rw [e1, List.reverse_append]
  simp; omega
theorem backS_stop {l : List Nat} {k b c : Nat} (hb : b < k) (h : l[k - b - 1]? = some c) (hc : c ≠ 47) : backS l k b = b := by
  unfold backS
  have e1 : l.take (k - b) = l.take (k - (b + 1)) ++ [c] := by
    have e2 : k - b = (k - (b + 1)) + 1 := by omega
    rw [e2, List.take_add_one]
    have e3 : k - (b + 1) = k - b - 1 := by omega
    rw [e3, h]; rfl
  rw [e1, List.reverse_append]
  have : (c == 47) = false := by simpa using hc
  simp [List.takeWhile_cons, this]
theorem backS_end {l : List Nat} {k b : Nat} (hb : k ≤ b) : backS l k b = b := by
  unfold backS
  have : k - b = 0 := by omega
  rw [this]; simp
theorem nextS_le (l : List Nat) (s : Bool) (k : Nat) : nextS l s k ≤ max k l.length := by
  unfold nextS
  have h1 : ((l.drop k).takeWhile fun c => (c == 47) != s).length ≤ (l.drop k).length := (List.takeWhile_sublist _).length_le
  rw [List.length_drop] at h1
  omega
theorem nextS_ge (l : List Nat) (s : Bool) (k : Nat) : k ≤ nextS l s k := by unfold nextS; omega
def dueH (l : List Nat) (k : Nat) : Int :=
  if l[k]? = some 47 then ((k : Int) + 1) * ((l.length : Int) - nextS l true (nextS l false k)) + ((backS l k 0 : Int) + 1) * ((nextS l true (nextS l false k) : Int) - k)
  else ((k : Int) + 1) * ((l.length : Int) - nextS l true k)
def dueT (l : List Nat) (k : Nat) : Int := if l[k]? = some 47 then 0 else ((k : Int) + 1) * ((nextS l true k : Int) - k)

theorem due_ok {g : Gd} {a b : Addr} (hf : Fn g P2 17 a) (hf16 : Fn g P2 16 b) (hb : Free g BI) {l : List Nat} {k : Nat} (hn : l.length ≤ 1000000) (hk : k < l.length) {Q : V → Led → Prop} {X : XL} {H : Led}
    (h : Q (.tup [.int (dueH l k), .int (dueT l k)]) H) : CallT g (1 + 1) (.ref a) [.txt false l, .int k] Q X H := by
  obtain ⟨hm, fd, F⟩ := hf
  refine CallT.def_ F (by rw [pars17]; rfl) fun C hC hro => ?_
  rw [pars17]
  refine TSs.le (start2 (by decide +kernel)) ?_
  refine TSs.cons ?_
  have hc : l[k]? = some l[k] := List.getElem?_eq_getElem hk
  repeat (walk_at "pl e")
  refine call_len_txt (by omega) ?_
  repeat (walk_at "pl e")
  refine Item.str (by omega) ⟨by rw [if_neg (by omega)], hk⟩ hc ?_
  repeat (walk_at "pl e")
  refine ite_b (fun c1 => ?_) (fun c1 => ?_)
  · have c1 : l[k] ≠ 47 := by simpa using c1
    repeat (walk_at "pl e")
    refine TE.callG hC hf16 (by kernel_rfl) (by kernel_rfl) ?_
    repeat (walk_at "pl e")
    refine CallV.fnI hC (next_ok hf16 hb (by omega) ?_) (by decide)
    have h1 := nextS_le l true k
    have h2 := nextS_ge l true k
    repeat (walk_at "pl e")
    refine Bin.mul_int (mulOk_small (by omega) (by omega)) ?_
    repeat (walk_at "pl e")
    refine Bin.mul_int (mulOk_small (by omega) (by omega)) ?_
    repeat (walk_at "pl e")
    refine ⟨by simp, ?_⟩
    have e1 : ¬ l[k]? = some 47 := by rw [hc]; simpa using c1
    unfold dueH dueT at h
    rw [if_neg e1, if_neg e1] at h
    exact h
  · have c1 : l[k] = 47 := by simpa using c1
    rw [c1] at hc
    repeat (walk_at "pl e")
    refine TS.while_ (fun m σ => ∃ j : Nat, m = k - j ∧ j ≤ k ∧ backS l k j = backS l k 0 ∧ Le ⟨[("text", .txt false l), ("k", .int k), ("n", .int l.length), ("b", .int j)], H⟩ σ) _ ⟨0, rfl, Nat.zero_le _, rfl, ⟨by rw [show ((0 : Nat) : Int) = 0 from rfl]; walk_at "pl lo", List.Sublist.refl _⟩⟩ ?_
    rintro m σ ⟨j, rfl, hjk, hj, hle⟩
    refine TB.le hle ?_
    repeat (walk_at "pl e")
    refine ite_b (fun c2 => ?_) (fun c2 => ?_)
    · have c2 : j < k := by simpa using c2
      have hlt : k - j - 1 < l.length := by omega
      have hd : l[k - j - 1]? = some l[k - j - 1] := List.getElem?_eq_getElem hlt
      repeat (walk_at "pl e")
      refine Item.str (j := k - j - 1) (by omega) ⟨by rw [if_neg (by omega)]; omega, hlt⟩ hd ?_
      repeat (walk_at "pl e")
      refine ite_b (fun c3 => ?_) (fun c3 => ?_)
      · repeat (walk_at "pl e")
        refine ite_t rfl ?_
        repeat (walk_at "pl e")
        refine ⟨k - (j + 1), by omega, j + 1, rfl, by omega, (backS_go c2 (by rw [hd]; simpa using c3)).symm.trans hj, ?_, List.Sublist.refl _⟩
        rw [show ((j + 1 : Nat) : Int) = (j : Int) + 1 from rfl]
        walk_at "pl lo"
      · refine ite_f (by decide) ?_
        have hfin := backS_stop c2 hd (by simpa using c3)
        rw [hj] at hfin
        repeat (walk_at "pl e")
        refine TE.callG hC hf16 (by kernel_rfl) (by kernel_rfl) ?_
        repeat (walk_at "pl e")
        refine TE.callG hC hf16 (by kernel_rfl) (by kernel_rfl) ?_
        repeat (walk_at "pl e")
        refine CallV.fnI hC (next_ok hf16 hb (by omega) ?_) (by decide)
        repeat (walk_at "pl e")
        refine CallV.fnI hC (next_ok hf16 hb (by omega) ?_) (by decide)
        have h1 := nextS_le l true (nextS l false k)
        have h2 := nextS_ge l true (nextS l false k)
        have h3 := nextS_le l false k
        have h4 := nextS_ge l false k
        repeat (walk_at "pl e")
        refine Bin.mul_int (mulOk_small (by omega) (by omega)) ?_
        repeat (walk_at "pl e")
        refine Bin.mul_int (mulOk_small (by omega) (by omega)) ?_
        repeat (walk_at "pl e")
        refine ⟨by simp, ?_⟩
        unfold dueH dueT at h
        rw [if_pos hc, if_pos hc, hfin] at h
        exact h
    · refine ite_f (by decide) ?_
      have c2 : k ≤ j := by simpa using c2
      have hfin := backS_end (l := l) c2
      rw [hj] at hfin
      repeat (walk_at "pl e")
      refine TE.callG hC hf16 (by kernel_rfl) (by kernel_rfl) ?_
      repeat (walk_at "pl e")
      refine TE.callG hC hf16 (by kernel_rfl) (by kernel_rfl) ?_
      repeat (walk_at "pl e")
      refine CallV.fnI hC (next_ok hf16 hb (by omega) ?_) (by decide)
      repeat (walk_at "pl e")
      refine CallV.fnI hC (next_ok hf16 hb (by omega) ?_) (by decide)
      have h1 := nextS_le l true (nextS l false k)
      have h2 := nextS_ge l true (nextS l false k)
      have h3 := nextS_le l false k
      have h4 := nextS_ge l false k
      repeat (walk_at "pl e")
      refine Bin.mul_int (mulOk_small (by omega) (by omega)) ?_
      repeat (walk_at "pl e")
      refine Bin.mul_int (mulOk_small (by omega) (by omega)) ?_
      repeat (walk_at "pl e")
      refine ⟨by simp, ?_⟩
      unfold dueH dueT at h
      rw [if_pos hc, if_pos hc, hfin] at h
      exact h
end PL

end
section
open PySem PySem.Calls PyProof.Rows
set_option Elab.async false
set_option linter.unusedVariables false
set_option linter.unusedSimpArgs false
set_option maxRecDepth 100000

namespace PL
theorem pars18 : parsAt P2 18 = [("script" : Str)] := by kernel_rfl
def lenC (xs : List Int) : Nat := min 16 xs.length
def textC (xs : List Int) : List Nat := (List.range (lenC xs)).map fun k : Nat => signC ((pick xs (some (k : Int)) none (some 16)).sum)
theorem textC_length (xs : List Int) : (textC xs).length = lenC xs := by simp [textC]
theorem textC_lt (xs : List Int) : ∀ c ∈ textC xs, c < 256 := by
  intro c hc
  obtain ⟨k, _, rfl⟩ := List.mem_map.mp hc
  exact signC_lt _
theorem min16 (xs : List Int) : (if (xs.length : Int) < 16 then (xs.length : Int) else 16) = (lenC xs : Int) := by
  unfold lenC; split <;> omega

def dirS (w : List Nat) : List Nat := if w.take (cut 47 w) ≠ [] ∧ w.take (cut 47 w) ≠ List.replicate (w.take (cut 47 w)).length 47 then rstripS 47 (w.take (cut 47 w)) else w.take (cut 47 w)
def baseS (w : List Nat) : List Nat := w.drop (cut 47 w)
theorem rstrip_take (c : Nat) (l : List Nat) : l.take (rstripS c l).length = rstripS c l := by
  have h : rstripS c l <+: l := by
    unfold rstripS
    have := List.reverse_prefix.mpr (List.dropWhile_suffix (p := (· == c)) (l := l.reverse))
    rwa [List.reverse_reverse] at this
  exact (List.prefix_iff_eq_take.mp h).symm
theorem dir_take (w : List Nat) : w.take (dirS w).length = dirS w := by
  unfold dirS
  split
  · have h := rstrip_take 47 (w.take (cut 47 w))
    have hl := rstripS_length 47 (w.take (cut 47 w))
    rw [List.take_take, Nat.min_eq_left (Nat.le_trans hl (by rw [List.length_take]; omega))] at h
    exact h
  · rw [List.length_take, Nat.min_eq_left (cut_le 47 w)]
theorem dir_le (w : List Nat) : (dirS w).length ≤ w.length := by
  rw [← dir_take]; rw [List.length_take]; omega
theorem base_drop (w : List Nat) : w.drop (w.length - (baseS w).length) = baseS w := by
  unfold baseS
  rw [List.length_drop]
  have := cut_le 47 w
  rw [show w.length - (w.length - cut 47 w) = cut 47 w by omega]
theorem base_le (w : List Nat) : (baseS w).length ≤ w.length := by unfold baseS; rw [List.length_drop]; omega
def win (l : List Nat) (i j : Nat) : List Nat := (l.drop i).take (j - i)
theorem win_length {l : List Nat} {i j : Nat} (h : i ≤ j) (hj : j ≤ l.length) : (win l i j).length = j - i := by
  unfold win; rw [List.length_take, List.length_drop]; omega
def cH (l : List Nat) (i j k : Nat) : Int := if i ≤ k ∧ k < i + (dirS (win l i j)).length then 1 else 0
def cT (l : List Nat) (i j k : Nat) : Int := if j - (baseS (win l i j)).length ≤ k ∧ k < j then 1 else 0
def sumN : Nat → (Nat → Int) → Int
  | 0, _ => 0
  | n + 1, f => sumN n f + f n
def totS (c : Nat → Nat → Nat → Int) (n i d k : Nat) : Int := sumN i (fun i' => sumN (n + 1 - i') fun d' => c i' (i' + d') k) + sumN d fun d' => c i (i + d') k

structure Fs (g : Gd) (a9 a11 a12 a13 a15 a16 a17 : Addr) : Prop where
  b : Free g BI
  f9 : Fn g P2 9 a9
  f11 : Fn g P2 11 a11
  f12 : Fn g P2 12 a12
  f13 : Fn g P2 13 a13
  f15 : Fn g P2 15 a15
  f16 : Fn g P2 16 a16
  f17 : Fn g P2 17 a17

theorem tot_next (c : Nat → Nat → Nat → Int) (n i d k : Nat) : totS c n i (d + 1) k = totS c n i d k + c i (i + d) k := by
  unfold totS
  rw [show sumN (d + 1) (fun d' => c i (i + d') k) = sumN d (fun d' => c i (i + d') k) + c i (i + d) k from rfl]
  omega
theorem tot_row (c : Nat → Nat → Nat → Int) (n i k : Nat) : totS c n (i + 1) 0 k = totS c n i (n + 1 - i) k := by
  unfold totS
  rw [show sumN (i + 1) (fun i' => sumN (n + 1 - i') fun d' => c i' (i' + d') k) = sumN i (fun i' => sumN (n + 1 - i') fun d' => c i' (i' + d') k) + sumN (n + 1 - i) (fun d' => c i (i + d') k) from rfl]
  simp [sumN]
theorem law_ok (count_H : ∀ (l : List Nat) (k : Nat), k < l.length → totS (cH l) l.length (l.length + 1) 0 k = dueH l k) (count_T : ∀ (l : List Nat) (k : Nat), k < l.length → totS (cT l) l.length (l.length + 1) 0 k = dueT l k) {g : Gd} {a a9 a11 a12 a13 a15 a16 a17 : Addr} (hf : Fn g P2 18 a) (fs : Fs g a9 a11 a12 a13 a15 a16 a17) {xs : List Int} (hx : xs.length ≤ 63) {X : XL} : CallT g (99 + 1) (.ref a) [.lst (xs.map .int)] (fun v _ => v = .bool true) X [] := by
  have hb := fs.b
  obtain ⟨hm, fd, F⟩ := hf
  refine CallT.def_ F (by rw [pars18]; rfl) fun C hC hro => ?_
  rw [pars18]
  refine TSs.le start1 ?_
  refine TSs.cons ?_
  repeat (walk_at "pl e")
  refine call_len_list (.fz _) (by simp; omega) ?_
  repeat (walk_at "pl e")
  refine call_min2 hC.calm ?_
  rw [List.length_map, min16]
  have hn : lenC xs ≤ 16 := by unfold lenC; omega
  walk_at "pl e"
  refine TS.assignC hC hro (by kernel_rfl) ?_
  refine TE.joinS ?_
  repeat (walk_at "pl e")
  refine TE.listcompF hC (by walk_at "pl comp") ?_
  repeat (walk_at "pl e")
  refine call_range1 ?_
  refine ⟨Nat, List.range (lenC xs), fun k : Nat => .int (k : Int), fun k => some (.txt false [signC ((pick xs (some (k : Int)) none (some 16)).sum)]), [("script", .lst (xs.map .int))], [], _, Walk.rngN (by omega), fun _ _ => trivial, List.Sublist.refl _, ?_, by simp; omega, ?_, ?_⟩
  · walk_at "pl lf"
  · intro C' hC' k hk
    refine TAs.name (hC'.stL (by kernel_rfl)) ?_
    refine TIfs.nil ?_
    refine ite_t rfl ?_
    refine TE.callG hC' fs.f15 (by kernel_rfl) (by kernel_rfl) ?_
    repeat (walk_at "pl e")
    refine Slc.list (.fz _) (by simp; omega) (by decide) ?_
    repeat (walk_at "pl e")
    rw [pick_map]
    refine call_sum hC'.calm (.fz _) ?_
    repeat (walk_at "pl e")
    refine CallV.fnI hC' (sign_ok fs.f15 hb ?_) (by decide)
    exact ⟨rfl, by walk_at "pl lo", List.Sublist.refl _⟩
  rw [filterMap_some, show ((List.range (lenC xs)).map fun k : Nat => V.txt false [signC ((pick xs (some (k : Int)) none (some 16)).sum)]) = ((textC xs).map fun c => [c]).map (V.txt false) from by simp [textC]]
  have hl := textC_length xs
  have hlt := textC_lt xs
  generalize textC xs = l at hl hlt
  repeat (walk_at "pl e")
  refine ⟨_, _, rfl, .fz _, by rw [sum_ones]; simp; omega, ?_⟩
  rw [joinS_nil]
  refine TSs.le (σ' := ⟨[("script", .lst (xs.map .int)), ("n", .int (lenC xs)), ("text", .txt false l)], []⟩) ⟨by walk_at "pl lo", List.Sublist.refl _⟩ ?_
  refine TSs.cons ?_
  refine TS.assign (by walk_at "pl st") ?_
  refine TE.cut (P := fun v σ' => (∃ o, v = .txt o l) ∧ σ' = ⟨[("script", .lst (xs.map .int)), ("n", .int (lenC xs)), ("text", .txt false l)], []⟩) ?_ ?_
  · repeat (walk_at "pl e")
    refine call_sum hC.calm (.fz _) ?_
    repeat (walk_at "pl e")
    refine Bin.mod_int (by decide) ?_
    repeat (walk_at "pl e")
    refine ite_b (fun c1 => ?_) (fun c1 => ?_)
    · repeat (walk_at "pl e")
      refine TE.listcompF hC (by walk_at "pl comp") ?_
      repeat (walk_at "pl e")
      refine ⟨Nat, l, fun c => .txt false [c], fun c => some (.int (c : Int)), [], [], _, Walk.str, fun _ _ => trivial, List.Sublist.refl _, by walk_at "pl lf", by omega, ?_, ?_⟩
      · intro C' hC' c hc
        refine TAs.name (hC'.stL (by kernel_rfl)) ?_
        refine TIfs.nil ?_
        refine ite_t rfl ?_
        repeat (walk_at "pl e")
        refine call_ord ?_
        exact ⟨rfl, by walk_at "pl lo", List.Sublist.refl _⟩
      · rw [filterMap_some]
        repeat (walk_at "pl e")
        refine call_bytes hC.calm (.fz _) hlt (by omega) ?_
        exact ⟨⟨_, rfl⟩, rfl⟩
    · repeat (walk_at "pl e")
      exact ⟨⟨_, rfl⟩, rfl⟩
  · rintro _ _ ⟨⟨o, rfl⟩, rfl⟩
    refine TSs.le (σ' := ⟨[("script", .lst (xs.map .int)), ("n", .int (lenC xs)), ("text", .txt false l), ("path", .txt o l)], []⟩) ⟨by walk_at "pl lo", List.Sublist.refl _⟩ ?_
    refine TSs.cons ?_
    refine TS.assignC hC hro (by kernel_rfl) ?_
    refine TE.listcompM hC (by walk_at "pl comp") ?_
    repeat (walk_at "pl e")
    refine call_range1 ?_
    refine ⟨Nat, List.range (lenC xs), fun k : Nat => .int (k : Int), fun _ => some (.int 0), [], [], _, Walk.rngN (by omega), fun _ _ => trivial, List.Sublist.refl _, by walk_at "pl lf", by simp; omega, ?_, ?_⟩
    · intro C' hC' c hc
      refine TAs.name (hC'.stL (by kernel_rfl)) ?_
      refine TIfs.nil ?_
      refine ite_t rfl ?_
      repeat (walk_at "pl e")
      exact ⟨rfl, by walk_at "pl lo", List.Sublist.refl _⟩
    intro aH
    refine TSs.cons ?_
    refine TS.assignC hC hro (by kernel_rfl) ?_
    refine TE.listcompM hC (by walk_at "pl comp") ?_
    repeat (walk_at "pl e")
    refine call_range1 ?_
    refine ⟨Nat, List.range (lenC xs), fun k : Nat => .int (k : Int), fun _ => some (.int 0), [], _, _, Walk.rngN (by omega), fun _ _ => trivial, List.Sublist.refl _, by walk_at "pl lf", by simp; omega, ?_, ?_⟩
    · intro C' hC' c hc
      refine TAs.name (hC'.stL (by kernel_rfl)) ?_
      refine TIfs.nil ?_
      refine ite_t rfl ?_
      repeat (walk_at "pl e")
      exact ⟨rfl, by walk_at "pl lo", List.Sublist.refl _⟩
    intro aT
    rw [filterMap_some]
    refine TSs.le (σ' := ⟨[("script", .lst (xs.map .int)), ("n", .int (lenC xs)), ("text", .txt false l), ("path", .txt o l), ("heads", .ref aH), ("tails", .ref aT)],
      [(aT, .list (cnt (lenC xs) fun _ => 0)), (aH, .list (cnt (lenC xs) fun _ => 0))]⟩) ⟨by walk_at "pl lo", List.Sublist.refl _⟩ ?_
    rw [← hl]
    rw [← hl] at hn
    refine TSs.cons ?_
    refine TS.forR hC.calm (hC.stL (by kernel_rfl)) ?_
    repeat (walk_at "pl e")
    refine call_range1 ?_
    refine ⟨0, l.length + 1, [("script", .lst (xs.map .int)), ("n", .int l.length), ("text", .txt false l), ("path", .txt o l), ("heads", .ref aH), ("tails", .ref aT)],
      fun i => [(aT, .list (cnt l.length fun k => totS (cT l) l.length i 0 k)), (aH, .list (cnt l.length fun k => totS (cH l) l.length i 0 k))], rfl, by omega, by omega, Le.refl _, ?_, ?_⟩
    · intro i hi
      rw [Nat.zero_add]
      refine TSs.cons ?_
      refine TS.forR hC.calm (hC.stL (by kernel_rfl)) ?_
      repeat (walk_at "pl e")
      refine call_range2 ?_
      refine ⟨i, l.length + 1, [("script", .lst (xs.map .int)), ("n", .int l.length), ("text", .txt false l), ("path", .txt o l), ("heads", .ref aH), ("tails", .ref aT), ("i", .int (i : Int))],
        fun d => [(aT, .list (cnt l.length fun k => totS (cT l) l.length i d k)), (aH, .list (cnt l.length fun k => totS (cH l) l.length i d k))], rfl, by omega, by omega, ⟨by walk_at "pl lo", List.Sublist.refl _⟩, ?_, ?_⟩
      · intro d hd
        have hw := win_length (l := l) (i := i) (j := i + d) (by omega) (by omega)
        have hsl : sl l (some (i : Int)) (some ((i + d : Nat) : Int)) = win l i (i + d) := sl_mid l i (i + d) (by omega) (by omega)
        have hd1 := dir_take (win l i (i + d))
        have hd2 := dir_le (win l i (i + d))
        have hb1 := base_drop (win l i (i + d))
        have hb2 := base_le (win l i (i + d))
        repeat (walk_at "pl e")
        refine Slc.txt (by omega) ?_
        rw [hsl]
        repeat (walk_at "pl e")
        refine TE.callG hC fs.f13 (by kernel_rfl) (by kernel_rfl) ?_
        repeat (walk_at "pl e")
        refine CallV.fnI hC (dirname_ok fs.f13 fs.f9 fs.f11 hb (by omega) ?_) (by decide)
        intro hdd ehd
        rw [sl_to] at ehd
        have ehd : (if hdd ≠ [] ∧ hdd ≠ List.replicate hdd.length 47 then rstripS 47 hdd else hdd) = dirS (win l i (i + d)) := by subst ehd; rfl
        rw [ehd]
        repeat (walk_at "pl e")
        refine TE.callG hC fs.f12 (by kernel_rfl) (by kernel_rfl) ?_
        repeat (walk_at "pl e")
        refine CallV.fnI hC (basename_ok fs.f12 fs.f9 fs.f11 hb (by omega) ?_) (by decide)
        rw [sl_from, show (win l i (i + d)).drop (cut 47 (win l i (i + d))) = baseS (win l i (i + d)) from rfl]
        repeat (walk_at "pl e")
        refine call_len_txt (by omega) ?_
        repeat (walk_at "pl e")
        refine Slc.txt (by omega) ?_
        rw [sl_to, hd1]
        repeat (walk_at "pl e")
        refine ite_f (by simp) ?_
        repeat (walk_at "pl e")
        refine call_len_txt (by omega) ?_
        repeat (walk_at "pl e")
        refine call_len_txt (by omega) ?_
        repeat (walk_at "pl e")
        refine Slc.txt (by omega) ?_
        rw [show ((win l i (i + d)).length : Int) - ((baseS (win l i (i + d))).length : Int) = (((win l i (i + d)).length - (baseS (win l i (i + d))).length : Nat) : Int) by omega, sl_from, hb1]
        repeat (walk_at "pl e")
        refine ite_f (by simp) ?_
        repeat (walk_at "pl e")
        refine ite_f (by decide) ?_
        repeat (walk_at "pl e")
        refine TS.forR hC.calm (hC.stL (by kernel_rfl)) ?_
        repeat (walk_at "pl e")
        refine call_len_txt (by omega) ?_
        repeat (walk_at "pl e")
        refine call_range2 ?_
        refine ⟨i, i + (dirS (win l i (i + d))).length, [("script", .lst (xs.map .int)), ("n", .int l.length), ("text", .txt false l), ("path", .txt o l), ("heads", .ref aH), ("tails", .ref aT), ("i", .int (i : Int)), ("j", .int ((i + d : Nat) : Int)), ("tail", .txt o (baseS (win l i (i + d))))],
          fun m => [(aT, .list (cnt l.length fun k => totS (cT l) l.length i d k)), (aH, .list (cnt l.length fun k => totS (cH l) l.length i d k + if i ≤ k ∧ k < i + m then 1 else 0))], by push_cast; rfl, by omega, by omega, Le.ofEq (by walk_at "pl lo") ?_, ?_, ?_⟩
        · refine led2 (fun k _ => rfl) (fun k _ => ?_)
          rw [if_neg (by omega)]; omega
        · intro m hm
          repeat (walk_at "pl e")
          refine Get.list (.mt (List.mem_cons_of_mem _ List.mem_cons_self)) (by rw [cnt_length]; omega) (cnt_get (by omega)) ?_
          repeat (walk_at "pl e")
          refine Put.led (.tail .head) (by rw [cnt_length]; omega) (by rw [cnt_length]; omega) ?_
          repeat (walk_at "pl e")
          refine Le.ofEq (by walk_at "pl lo") ?_
          rw [cnt_set (by omega)]
          refine led2 (fun k _ => rfl) (fun k _ => ?_)
          by_cases hk : k = i + m
          · subst hk; rw [if_pos rfl, if_pos (by omega), if_neg (by omega)]; omega
          · rw [if_neg hk]
            by_cases h1 : i ≤ k ∧ k < i + m
            · rw [if_pos h1, if_pos (by omega)]
            · rw [if_neg h1, if_neg (by omega)]
        intro σ hle
        refine TSs.le hle ?_
        refine TSs.cons ?_
        refine TS.forR hC.calm (hC.stL (by kernel_rfl)) ?_
        repeat (walk_at "pl e")
        refine call_len_txt (by omega) ?_
        repeat (walk_at "pl e")
        refine call_range2 ?_
        refine ⟨i + d - (baseS (win l i (i + d))).length, i + d, [("script", .lst (xs.map .int)), ("n", .int l.length), ("text", .txt false l), ("path", .txt o l), ("heads", .ref aH), ("tails", .ref aT), ("i", .int (i : Int))],
          fun m => [(aT, .list (cnt l.length fun k => totS (cT l) l.length i d k + if i + d - (baseS (win l i (i + d))).length ≤ k ∧ k < i + d - (baseS (win l i (i + d))).length + m then 1 else 0)), (aH, .list (cnt l.length fun k => totS (cH l) l.length i (d + 1) k))],
          by congr 1; omega, by omega, by omega, Le.ofEq (by walk_at "pl lo") ?_, ?_, ?_⟩
        · refine led2 (fun k _ => ?_) (fun k _ => ?_)
          · rw [if_neg (by omega)]; omega
          · rw [tot_next, Nat.add_sub_cancel_left]; rfl
        · intro m hm
          repeat (walk_at "pl e")
          refine Get.list (.mt List.mem_cons_self) (by rw [cnt_length]; omega) (cnt_get (by omega)) ?_
          repeat (walk_at "pl e")
          refine Put.led .head (by rw [cnt_length]; omega) (by rw [cnt_length]; omega) ?_
          repeat (walk_at "pl e")
          refine Le.ofEq (by walk_at "pl lo") ?_
          rw [cnt_set (by omega)]
          refine led2 (fun k _ => ?_) (fun k _ => rfl)
          by_cases hk : k = i + d - (baseS (win l i (i + d))).length + m
          · subst hk; rw [if_pos rfl, if_pos (by omega), if_neg (by omega)]; omega
          · rw [if_neg hk]
            by_cases h1 : i + d - (baseS (win l i (i + d))).length ≤ k ∧ k < i + d - (baseS (win l i (i + d))).length + m
            · rw [if_pos h1, if_pos (by omega)]
            · rw [if_neg h1, if_neg (by omega)]
        intro σ hle
        refine TSs.le hle ?_
        refine TSs.nil ?_
        refine Le.ofEq (by walk_at "pl lo") ?_
        refine led2 (fun k _ => ?_) (fun k _ => rfl)
        rw [tot_next]
        congr 1
        unfold cT
        rw [show i + d - (baseS (win l i (i + d))).length + (i + d - (i + d - (baseS (win l i (i + d))).length)) = i + d by omega]
      · intro σ hle
        refine TSs.le hle ?_
        refine TSs.nil ?_
        refine Le.ofEq (by walk_at "pl lo") ?_
        exact led2 (fun k _ => tot_row _ _ _ _) (fun k _ => tot_row _ _ _ _)
    · intro σ hle
      refine TSs.le hle ?_
      show TSs _ _ _ _ ⟨_, [(aT, .list (cnt l.length fun k => totS (cT l) l.length (l.length + 1) 0 k)), (aH, .list (cnt l.length fun k => totS (cH l) l.length (l.length + 1) 0 k))]⟩
      refine TSs.cons ?_
      repeat (walk_at "pl e")
      refine TE.listcompF hC (by walk_at "pl comp") ?_
      repeat (walk_at "pl e")
      refine call_range1 ?_
      refine ⟨Nat, List.range l.length, fun k : Nat => .int (k : Int), fun k => some (.tup [.int (totS (cH l) l.length (l.length + 1) 0 k), .int (totS (cT l) l.length (l.length + 1) 0 k)]), [("heads", .ref aH), ("tails", .ref aT)],
        [(aT, .list (cnt l.length fun k => totS (cT l) l.length (l.length + 1) 0 k)), (aH, .list (cnt l.length fun k => totS (cH l) l.length (l.length + 1) 0 k))], _, Walk.rngN (by omega), fun _ _ => trivial, List.Sublist.refl _, by walk_at "pl lf", by simp; omega, ?_, ?_⟩
      · intro C' hC' k hk
        have hk := List.mem_range.mp hk
        refine TAs.name (hC'.stL (by kernel_rfl)) ?_
        refine TIfs.nil ?_
        refine ite_t rfl ?_
        repeat (walk_at "pl e")
        refine Item.list (.mt (List.mem_cons_of_mem _ List.mem_cons_self)) (by rw [cnt_length]; omega) ⟨by rw [if_neg (by omega)], by rw [cnt_length]; exact hk⟩ (cnt_get hk) ?_
        repeat (walk_at "pl e")
        refine Item.list (.mt List.mem_cons_self) (by rw [cnt_length]; omega) ⟨by rw [if_neg (by omega)], by rw [cnt_length]; exact hk⟩ (cnt_get hk) ?_
        repeat (walk_at "pl e")
        refine ⟨by simp, rfl, Le.ofEq (by walk_at "pl lo") rfl⟩
      repeat (walk_at "pl e")
      refine TE.listcompF hC (by walk_at "pl comp") ?_
      repeat (walk_at "pl e")
      refine call_range1 ?_
      refine ⟨Nat, List.range l.length, fun k : Nat => .int (k : Int), fun k => some (.tup [.int (dueH l k), .int (dueT l k)]), [("text", .txt false l)], [], _, Walk.rngN (by omega), fun _ _ => trivial, List.nil_sublist _, by walk_at "pl lf", by simp; omega, ?_, ?_⟩
      · intro C' hC' k hk
        have hk := List.mem_range.mp hk
        refine TAs.name (hC'.stL (by kernel_rfl)) ?_
        refine TIfs.nil ?_
        refine ite_t rfl ?_
        refine TE.callG hC' fs.f17 (by kernel_rfl) (by kernel_rfl) ?_
        repeat (walk_at "pl e")
        refine CallV.fnI hC' (due_ok fs.f17 fs.f16 hb (by omega) hk ?_) (by decide)
        refine ⟨rfl, Le.ofEq (by walk_at "pl lo") rfl⟩
      refine Cmp.eq_same ?_ ?_ ?_ rfl
      · congr 1
        rw [filterMap_some, filterMap_some]
        refine List.map_congr_left fun k hk => ?_
        have hk := List.mem_range.mp hk
        rw [count_H l k hk, count_T l k hk]
      · rw [filterMap_some]
        refine plainVs_all fun v hv => ?_
        obtain ⟨k, _, rfl⟩ := List.mem_map.mp hv
        rfl
      · rw [filterMap_some]
        show deepVs _ + 1 ≤ 64
        have : deepVs ((List.range l.length).map fun k => V.tup [.int (totS (cH l) l.length (l.length + 1) 0 k), .int (totS (cT l) l.length (l.length + 1) 0 k)]) ≤ 1 := by
          refine deepVs_le fun v hv => ?_
          obtain ⟨k, _, rfl⟩ := List.mem_map.mp hv
          exact Nat.le_refl _
        omega
end PL

end
section
open PySem PySem.Calls PyProof.Rows
set_option Elab.async false
set_option linter.unusedVariables false
set_option linter.unusedSimpArgs false
namespace PL

theorem rs_cons (c x : Nat) (r : List Nat) : rstripS c (x :: r) = if rstripS c r = [] ∧ x = c then [] else x :: rstripS c r := by
  unfold rstripS
  rw [List.reverse_cons, List.dropWhile_append]
  cases h : List.dropWhile (fun y => y == c) r.reverse with
  | nil =>
    by_cases hx : x = c
    · simp [h, hx]
    · have : (x == c) = false := beq_eq_false_iff_ne.mpr hx
      simp [h, hx, List.dropWhile_cons, this]
  | cons a b => simp [h]
theorem rs_iff (c : Nat) : ∀ (h : List Nat) (q : Nat), q < (rstripS c h).length ↔ ∃ p x, q ≤ p ∧ h[p]? = some x ∧ x ≠ c
  | [], q => by simp [rstripS]
  | x :: r, q => by
    have ih := rs_iff c r
    rw [rs_cons]
    by_cases h : rstripS c r = [] ∧ x = c
    · rw [if_pos h]
      constructor
      · intro hq; simp at hq
      · rintro ⟨p, y, hp, hy, hne⟩
        cases p with
        | zero => simp at hy; exact absurd (hy ▸ h.2) hne
        | succ p =>
          have := (ih 0).mpr ⟨p, y, Nat.zero_le _, by simpa using hy, hne⟩
          rw [h.1] at this; simp at this
    · rw [if_neg h]
      cases q with
      | zero =>
        constructor
        · intro _
          by_cases hx : x = c
          · have hr : rstripS c r ≠ [] := fun e => h ⟨e, hx⟩
            have : 0 < (rstripS c r).length := List.length_pos_iff.mpr hr
            obtain ⟨p, y, _, hy, hne⟩ := (ih 0).mp this
            exact ⟨p + 1, y, Nat.zero_le _, by simpa using hy, hne⟩
          · exact ⟨0, x, Nat.le_refl _, by simp, hx⟩
        · intro _; simp
      | succ q =>
        rw [List.length_cons, Nat.add_lt_add_iff_right, ih q]
        constructor
        · rintro ⟨p, y, hp, hy, hne⟩; exact ⟨p + 1, y, by omega, by simpa using hy, hne⟩
        · rintro ⟨p, y, hp, hy, hne⟩
          cases p with
          | zero => omega
          | succ p => exact ⟨p, y, by omega, by simpa using hy, hne⟩

/-- which places the head covers -/
theorem dir_iff (w : List Nat) (q : Nat) : q < (dirS w).length ↔ (∃ (p s x : Nat), q ≤ p ∧ p < s ∧ w[p]? = some x ∧ x ≠ 47 ∧ w[s]? = some 47) ∨ ((∃ s : Nat, q ≤ s ∧ w[s]? = some 47) ∧ ∀ p s : Nat, p < s → w[s]? = some 47 → w[p]? = some 47) := by
  unfold dirS
  rcases cut_spec 47 w with ⟨h0, h1⟩ | ⟨s, h0, h1, h2⟩
  · rw [h0, List.take_zero, if_neg (by simp)]
    constructor
    · intro h; simp at h
    · rintro (⟨p, s, x, _, _, _, _, e⟩ | ⟨⟨s, _, e⟩, _⟩)
      · exact absurd e (h1 s)
      · exact absurd e (h1 s)
  · have hs : s < w.length := (List.getElem?_eq_some_iff.mp h1).1
    have hlen : (w.take (cut 47 w)).length = s + 1 := by rw [List.length_take, h0]; omega
    have hget : ∀ p, p ≤ s → (w.take (cut 47 w))[p]? = w[p]? := fun p hp => by rw [h0, List.getElem?_take_of_lt (by omega)]
    have hne : w.take (cut 47 w) ≠ [] := by intro e; rw [e] at hlen; simp at hlen
    by_cases hall : w.take (cut 47 w) = List.replicate (w.take (cut 47 w)).length 47
    · rw [if_neg (fun ⟨_, e⟩ => e hall), hlen]
      have all : ∀ p, p ≤ s → w[p]? = some 47 := by
        intro p hp
        rw [← hget p hp, hall, hlen, List.getElem?_replicate, if_pos (by omega)]
      constructor
      · intro hq
        refine .inr ⟨⟨s, by omega, h1⟩, fun p s' hp hs' => ?_⟩
        have : s' ≤ s := Nat.not_lt.mp fun e => h2 s' e hs'
        exact all p (by omega)
      · rintro (⟨p, s', x, hq, hp, hx, hxn, hs'⟩ | ⟨⟨s', hq, hs'⟩, _⟩)
        · have : s' ≤ s := Nat.not_lt.mp fun e => h2 s' e hs'
          omega
        · have : s' ≤ s := Nat.not_lt.mp fun e => h2 s' e hs'
          omega
    · rw [if_pos ⟨hne, hall⟩, rs_iff]
      constructor
      · rintro ⟨p, x, hq, hx, hxn⟩
        have hp : p < s + 1 := by rw [← hlen]; exact (List.getElem?_eq_some_iff.mp hx).1
        rw [hget p (by omega)] at hx
        have : p ≠ s := by intro e; subst e; rw [h1] at hx; cases hx; exact hxn rfl
        exact .inl ⟨p, s, x, hq, by omega, hx, hxn, h1⟩
      · rintro (⟨p, s', x, hq, hp, hx, hxn, hs'⟩ | ⟨_, hb⟩)
        · have : s' ≤ s := Nat.not_lt.mp fun e => h2 s' e hs'
          exact ⟨p, x, hq, by rw [hget p (by omega)]; exact hx, hxn⟩
        · exfalso
          apply hall
          apply List.ext_getElem?
          intro p
          by_cases hp : p ≤ s
          · rw [hget p hp, hlen, List.getElem?_replicate, if_pos (by omega)]
            by_cases e : p = s
            · subst e; exact h1
            · exact hb p s (by omega) h1
          · rw [List.getElem?_eq_none (by omega), List.getElem?_eq_none (by simp; omega)]

theorem win_get {l : List Nat} {i j p : Nat} (h : i + p < j) : (win l i j)[p]? = l[i + p]? := by
  unfold win; rw [List.getElem?_take_of_lt (by omega), List.getElem?_drop]
theorem win_none {l : List Nat} {i j p : Nat} (h : j ≤ i + p) : (win l i j)[p]? = none := by
  apply List.getElem?_eq_none
  unfold win; rw [List.length_take]; omega
theorem win_some {l : List Nat} {i j p x : Nat} (h : (win l i j)[p]? = some x) : i + p < j ∧ l[i + p]? = some x := by
  by_cases hp : i + p < j
  · rw [win_get hp] at h; exact ⟨hp, h⟩
  · rw [win_none (by omega)] at h; cases h

theorem nextS_spec (l : List Nat) (s : Bool) : ∀ (m k : Nat), l.length - k = m → k ≤ l.length →
    k ≤ nextS l s k ∧ nextS l s k ≤ l.length ∧ (∀ p, k ≤ p → p < nextS l s k → ∃ c, l[p]? = some c ∧ ((c == 47) != s) = true) ∧ (nextS l s k < l.length → ∃ c, l[nextS l s k]? = some c ∧ (c == 47) = s)
  | 0, k, hm, hk => by
    rw [nextS_end (by omega)]
    exact ⟨Nat.le_refl _, hk, fun p h1 h2 => by omega, fun h => by omega⟩
  | m + 1, k, hm, hk => by
    have hlt : k < l.length := by omega
    have hc : l[k]? = some l[k] := List.getElem?_eq_getElem hlt
    cases hb : ((l[k] == 47) != s) with
    | true =>
      rw [nextS_go hc hb]
      obtain ⟨a1, a2, a3, a4⟩ := nextS_spec l s m (k + 1) (by omega) hlt
      refine ⟨by omega, a2, fun p h1 h2 => ?_, a4⟩
      by_cases e : p = k
      · subst e; exact ⟨_, hc, hb⟩
      · exact a3 p (by omega) h2
    | false =>
      rw [nextS_stop hc hb]
      exact ⟨Nat.le_refl _, hk, fun p h1 h2 => by omega, fun _ => ⟨_, hc, by simpa using hb⟩⟩
theorem backS_spec (l : List Nat) (k : Nat) (hk : k ≤ l.length) : ∀ (m b : Nat), k - b = m → b ≤ k →
    b ≤ backS l k b ∧ backS l k b ≤ k ∧ (∀ p, k - backS l k b ≤ p → p < k - b → l[p]? = some 47) ∧ (backS l k b < k → l[k - backS l k b - 1]? ≠ some 47)
  | 0, b, hm, hb => by
    rw [backS_end (by omega)]
    exact ⟨Nat.le_refl _, hb, fun p h1 h2 => by omega, fun h => by omega⟩
  | m + 1, b, hm, hb => by
    have hlt : k - b - 1 < l.length := by omega
    have hc : l[k - b - 1]? = some l[k - b - 1] := List.getElem?_eq_getElem hlt
    by_cases h : l[k - b - 1] = 47
    · have hc' : l[k - b - 1]? = some 47 := by rw [hc, h]
      rw [backS_go (by omega) hc']
      obtain ⟨a1, a2, a3, a4⟩ := backS_spec l k hk m (b + 1) (by omega) (by omega)
      refine ⟨by omega, a2, fun p h1 h2 => ?_, a4⟩
      by_cases e : p = k - b - 1
      · subst e; exact hc'
      · exact a3 p h1 (by omega)
    · rw [backS_stop (by omega) hc h]
      exact ⟨Nat.le_refl _, hb, fun p h1 h2 => by omega, fun _ e => h (by rw [hc] at e; exact Option.some.inj e)⟩

/-! counting -/
theorem sumN_congr {f g : Nat → Int} : ∀ {n : Nat}, (∀ i, i < n → f i = g i) → sumN n f = sumN n g
  | 0, _ => rfl
  | n + 1, h => by
    show sumN n f + f n = sumN n g + g n
    rw [sumN_congr fun i hi => h i (by omega), h n (by omega)]
theorem sumN_ind (u v : Nat) : ∀ m : Nat, sumN m (fun d => if u ≤ d ∧ d < v then (1 : Int) else 0) = ((min v m - min u m : Nat) : Int)
  | 0 => by simp [sumN]
  | m + 1 => by
    show sumN m _ + _ = _
    rw [sumN_ind u v m]
    dsimp only
    split <;> omega
theorem sumN_add (f g : Nat → Int) : ∀ n : Nat, sumN n (fun i => f i + g i) = sumN n f + sumN n g
  | 0 => rfl
  | n + 1 => by
    show sumN n _ + _ = (sumN n f + f n) + (sumN n g + g n)
    rw [sumN_add f g n]; dsimp only; omega
theorem sumN_const (c : Int) (P : Nat → Prop) [DecidablePred P] : ∀ n : Nat, sumN n (fun i => if P i then c else 0) = sumN n (fun i => if P i then (1 : Int) else 0) * c
  | 0 => by simp [sumN]
  | n + 1 => by
    show sumN n _ + _ = (sumN n _ + _) * c
    rw [sumN_const c P n, Int.add_mul]
    congr 1
    dsimp only
    split <;> simp
/-- windows that begin in `[a, k]` and end in `(A, B]` -/
theorem sum_block {n a k A B : Nat} (h1 : k ≤ A) (h2 : A ≤ B) (h3 : B ≤ n) (h4 : a ≤ k + 1) (h5 : k ≤ n) :
    sumN (n + 1) (fun i => sumN (n + 1 - i) fun d => if a ≤ i ∧ i ≤ k ∧ A < i + d ∧ i + d ≤ B then (1 : Int) else 0) = ((k + 1 - a : Nat) : Int) * ((B - A : Nat) : Int) := by
  have inner : ∀ i, i < n + 1 → sumN (n + 1 - i) (fun d => if a ≤ i ∧ i ≤ k ∧ A < i + d ∧ i + d ≤ B then (1 : Int) else 0) = if a ≤ i ∧ i < k + 1 then ((B - A : Nat) : Int) else 0 := by
    intro i hi
    by_cases hp : a ≤ i ∧ i < k + 1
    · rw [if_pos hp]
      have := sumN_ind (A + 1 - i) (B + 1 - i) (n + 1 - i)
      rw [← show sumN (n + 1 - i) (fun d => if A + 1 - i ≤ d ∧ d < B + 1 - i then (1 : Int) else 0) = sumN (n + 1 - i) (fun d => if a ≤ i ∧ i ≤ k ∧ A < i + d ∧ i + d ≤ B then (1 : Int) else 0) from
        sumN_congr fun d hd => by
          by_cases hq : A + 1 - i ≤ d ∧ d < B + 1 - i
          · rw [if_pos hq, if_pos (by omega)]
          · rw [if_neg hq, if_neg (by omega)], this]
      omega
    · rw [if_neg hp]
      have : sumN (n + 1 - i) (fun _ => (0 : Int)) = 0 := by
        have : ∀ m : Nat, sumN m (fun _ => (0 : Int)) = 0 := by
          intro m; induction m with
          | zero => rfl
          | succ m ih => show sumN m _ + 0 = 0; rw [ih]; rfl
        exact this _
      refine Eq.trans (sumN_congr fun d _ => ?_) this
      exact if_neg (by omega)
  rw [sumN_congr inner, sumN_const, sumN_ind]
  congr 1
  omega
theorem tot_full (c : Nat → Nat → Nat → Int) (n k : Nat) : totS c n (n + 1) 0 k = sumN (n + 1) fun i => sumN (n + 1 - i) fun d => c i (i + d) k := by
  unfold totS; simp [sumN]

theorem cT_iff {l : List Nat} {i j k : Nat} (hij : i ≤ j) (hj : j ≤ l.length) : (j - (baseS (win l i j)).length ≤ k ∧ k < j) ↔ (i ≤ k ∧ k < j ∧ ∀ p, k ≤ p → p < j → l[p]? ≠ some 47) := by
  have hw := win_length hij hj
  have hb : (baseS (win l i j)).length = j - i - cut 47 (win l i j) := by unfold baseS; rw [List.length_drop, hw]
  have hc := cut_le 47 (win l i j)
  rw [hb]
  rw [hw] at hc
  rcases cut_spec 47 (win l i j) with ⟨h0, h1⟩ | ⟨s, h0, h1, h2⟩
  · rw [h0]
    constructor
    · rintro ⟨a, b⟩
      refine ⟨by omega, b, fun p hp1 hp2 e => h1 (p - i) ?_⟩
      rw [win_get (by omega), show i + (p - i) = p by omega]; exact e
    · rintro ⟨a, b, _⟩; exact ⟨by omega, b⟩
  · rw [h0]
    obtain ⟨hs1, hs2⟩ := win_some h1
    constructor
    · rintro ⟨a, b⟩
      refine ⟨by omega, b, fun p hp1 hp2 e => h2 (p - i) (by omega) ?_⟩
      rw [win_get (by omega), show i + (p - i) = p by omega]; exact e
    · rintro ⟨a, b, c⟩
      refine ⟨?_, b⟩
      have : i + s < k := Nat.not_le.mp fun e => c (i + s) e hs1 hs2
      omega

theorem count_T (l : List Nat) (k : Nat) (hk : k < l.length) : totS (cT l) l.length (l.length + 1) 0 k = dueT l k := by
  rw [tot_full]
  unfold dueT
  have hc : l[k]? = some l[k] := List.getElem?_eq_getElem hk
  obtain ⟨n1, n2, n3, n4⟩ := nextS_spec l true _ k rfl (Nat.le_of_lt hk)
  generalize nextS l true k = e at n1 n2 n3 n4
  by_cases h47 : l[k]? = some 47
  · rw [if_pos h47]
    have := sum_block (n := l.length) (a := 0) (k := k) (A := k) (B := k) (Nat.le_refl _) (Nat.le_refl _) (by omega) (by omega) (by omega)
    rw [Nat.sub_self, Int.natCast_zero, Int.mul_zero] at this
    rw [← this]
    refine sumN_congr fun i hi => sumN_congr fun d hd => ?_
    unfold cT
    rw [if_neg (by omega : ¬ (0 ≤ i ∧ i ≤ k ∧ k < i + d ∧ i + d ≤ k))]
    refine if_neg fun h => ?_
    have := (cT_iff (by omega) (by omega)).mp h
    exact this.2.2 k (Nat.le_refl _) this.2.1 h47
  · rw [if_neg h47]
    have := sum_block (n := l.length) (a := 0) (k := k) (A := k) (B := e) (Nat.le_refl _) n1 n2 (by omega) (by omega)
    rw [show ((k : Int) + 1) * ((e : Int) - k) = ((k + 1 - 0 : Nat) : Int) * ((e - k : Nat) : Int) by congr 1 <;> omega, ← this]
    refine sumN_congr fun i hi => sumN_congr fun d hd => ?_
    unfold cT
    by_cases hb : 0 ≤ i ∧ i ≤ k ∧ k < i + d ∧ i + d ≤ e
    · rw [if_pos hb]
      refine if_pos ((cT_iff (by omega) (by omega)).mpr ⟨hb.2.1, hb.2.2.1, fun p h1 h2 h3 => ?_⟩)
      obtain ⟨c, q1, q2⟩ := n3 p h1 (by omega)
      rw [h3] at q1; cases q1; simp at q2
    · rw [if_neg hb]
      refine if_neg fun h => hb ?_
      obtain ⟨q1, q2, q3⟩ := (cT_iff (by omega) (by omega)).mp h
      refine ⟨by omega, q1, q2, Nat.not_lt.mp fun q4 => ?_⟩
      obtain ⟨c, r1, r2⟩ := n4 (by omega)
      have : c = 47 := by simpa using r2
      subst this
      exact q3 e n1 q4 r1

theorem count_H (l : List Nat) (k : Nat) (hk : k < l.length) : totS (cH l) l.length (l.length + 1) 0 k = dueH l k := by
  rw [tot_full]
  unfold dueH
  have hc : l[k]? = some l[k] := List.getElem?_eq_getElem hk
  have shape : ∀ i j, i ≤ k → (k < i + (dirS (win l i j)).length ↔ k - i < (dirS (win l i j)).length) := fun i j h => by omega
  by_cases h47 : l[k]? = some 47
  · rw [if_pos h47]
    obtain ⟨f1, f2, f3, f4⟩ := nextS_spec l false _ k rfl (Nat.le_of_lt hk)
    generalize nextS l false k = f at f1 f2 f3 f4
    obtain ⟨t1, t2, t3, t4⟩ := nextS_spec l true _ f rfl f2
    generalize nextS l true f = t at t1 t2 t3 t4
    obtain ⟨b1, b2, b3, b4⟩ := backS_spec l k (by omega) _ 0 rfl (Nat.zero_le _)
    generalize backS l k 0 = b at b1 b2 b3 b4
    have hkf : k < f := by
      rcases Nat.lt_or_ge k f with h | h
      · exact h
      · have : f = k := by omega
        subst this
        obtain ⟨c, q1, q2⟩ := f4 hk
        rw [h47] at q1; cases q1; simp at q2
    have s1 := sum_block (n := l.length) (a := 0) (k := k) (A := t) (B := l.length) (by omega) t2 (Nat.le_refl _) (by omega) (by omega)
    have s2 := sum_block (n := l.length) (a := k - b) (k := k) (A := k) (B := t) (Nat.le_refl _) (by omega) t2 (by omega) (by omega)
    rw [show ((k : Int) + 1) * ((l.length : Int) - t) = ((k + 1 - 0 : Nat) : Int) * ((l.length - t : Nat) : Int) by congr 1 <;> omega,
      show ((b : Int) + 1) * ((t : Int) - k) = ((k + 1 - (k - b) : Nat) : Int) * ((t - k : Nat) : Int) by congr 1 <;> omega, ← s1, ← s2, ← sumN_add]
    refine sumN_congr fun i hi => ?_
    rw [← sumN_add]
    refine sumN_congr fun d hd => ?_
    generalize hj : i + d = j
    have hjn : j ≤ l.length := by omega
    have hij : i ≤ j := by omega
    have key : i ≤ k → (k - i < (dirS (win l i j)).length ↔ (t < j ∨ (k < j ∧ j ≤ t ∧ k - b ≤ i))) := by
      intro hik
      rw [dir_iff]
      constructor
      · rintro (⟨p, s, x, a1, a2, a3, a4, a5⟩ | ⟨⟨s, a1, a2⟩, a3⟩)
        · left
          obtain ⟨w1, w2⟩ := win_some a3
          obtain ⟨w3, w4⟩ := win_some a5
          have hp : f ≤ i + p := Nat.not_lt.mp fun e => by
            obtain ⟨c, q1, q2⟩ := f3 (i + p) (by omega) e
            rw [w2] at q1; cases q1
            simp at q2; exact a4 q2
          have hs : t ≤ i + s := Nat.not_lt.mp fun e => by
            obtain ⟨c, q1, q2⟩ := t3 (i + s) (by omega) e
            rw [w4] at q1; cases q1; simp at q2
          omega
        · obtain ⟨w1, w2⟩ := win_some a2
          rcases Nat.lt_or_ge t j with h | h
          · exact .inl h
          · refine .inr ⟨by omega, h, Nat.not_lt.mp fun e => ?_⟩
            have hbk : b < k := by omega
            have q := b4 hbk
            have hkw : (win l i j)[k - i]? = some 47 := by rw [win_get (by omega), show i + (k - i) = k by omega]; exact h47
            have := a3 (k - b - 1 - i) (k - i) (by omega) hkw
            rw [win_get (by omega), show i + (k - b - 1 - i) = k - b - 1 by omega] at this
            exact q this
      · rintro (h | ⟨h1, h2, h3⟩)
        · left
          obtain ⟨c, q1, q2⟩ := t4 (by omega)
          have : c = 47 := by simpa using q2
          subst this
          have hft : f < t := by
            rcases Nat.lt_or_ge f t with h | h
            · exact h
            · have : t = f := by omega
              subst this
              obtain ⟨c, r1, r2⟩ := f4 (by omega)
              rw [q1] at r1; cases r1; simp at r2
          obtain ⟨c, r1, r2⟩ := f4 (by omega)
          refine ⟨f - i, t - i, c, by omega, by omega, ?_, ?_, ?_⟩
          · rw [win_get (by omega), show i + (f - i) = f by omega]; exact r1
          · simpa using r2
          · rw [win_get (by omega), show i + (t - i) = t by omega]; exact q1
        · right
          refine ⟨⟨k - i, Nat.le_refl _, by rw [win_get (by omega), show i + (k - i) = k by omega]; exact h47⟩, fun p s hps hs => ?_⟩
          obtain ⟨w3, w4⟩ := win_some hs
          have hsf : i + s < f := Nat.not_le.mp fun e => by
            obtain ⟨c, q1, q2⟩ := t3 (i + s) e (by omega)
            rw [w4] at q1; cases q1; simp at q2
          rw [win_get (by omega)]
          rcases Nat.lt_or_ge (i + p) k with h | h
          · exact b3 (i + p) (by omega) (by omega)
          · obtain ⟨c, q1, q2⟩ := f3 (i + p) h (by omega)
            rw [q1]
            have : c = 47 := by simpa using q2
            rw [this]
    unfold cH
    by_cases hik : i ≤ k
    · by_cases hA : t < j
      · rw [if_pos ⟨hik, (shape i j hik).mpr ((key hik).mpr (.inl hA))⟩, if_pos (by omega), if_neg (by omega)]; rfl
      · by_cases hB : k < j ∧ j ≤ t ∧ k - b ≤ i
        · rw [if_pos ⟨hik, (shape i j hik).mpr ((key hik).mpr (.inr hB))⟩, if_neg (by omega), if_pos (by omega)]; rfl
        · rw [if_neg fun h => ((key hik).mp ((shape i j hik).mp h.2)).elim hA hB, if_neg (by omega), if_neg (by omega)]; rfl
    · rw [if_neg fun h => hik h.1, if_neg (by omega), if_neg (by omega)]; rfl
  · rw [if_neg h47]
    obtain ⟨n1, n2, n3, n4⟩ := nextS_spec l true _ k rfl (Nat.le_of_lt hk)
    generalize nextS l true k = e at n1 n2 n3 n4
    have s1 := sum_block (n := l.length) (a := 0) (k := k) (A := e) (B := l.length) n1 n2 (Nat.le_refl _) (by omega) (by omega)
    rw [show ((k : Int) + 1) * ((l.length : Int) - e) = ((k + 1 - 0 : Nat) : Int) * ((l.length - e : Nat) : Int) by congr 1 <;> omega, ← s1]
    refine sumN_congr fun i hi => sumN_congr fun d hd => ?_
    generalize hj : i + d = j
    have hjn : j ≤ l.length := by omega
    have key : i ≤ k → (k - i < (dirS (win l i j)).length ↔ e < j) := by
      intro hik
      rw [dir_iff]
      constructor
      · rintro (⟨p, s, x, a1, a2, a3, a4, a5⟩ | ⟨⟨s, a1, a2⟩, a3⟩)
        · obtain ⟨w3, w4⟩ := win_some a5
          have hs : e ≤ i + s := Nat.not_lt.mp fun q => by
            obtain ⟨c, q1, q2⟩ := n3 (i + s) (by omega) q
            rw [w4] at q1; cases q1; simp at q2
          omega
        · exfalso
          obtain ⟨w1, w2⟩ := win_some a2
          by_cases hs : s = k - i
          · subst hs
            rw [show i + (k - i) = k by omega] at w2
            exact h47 w2
          · have := a3 (k - i) s (by omega) a2
            rw [win_get (by omega), show i + (k - i) = k by omega] at this
            exact h47 this
      · intro h
        left
        obtain ⟨c, q1, q2⟩ := n4 (by omega)
        have : c = 47 := by simpa using q2
        subst this
        have hke : k < e := by
          rcases Nat.lt_or_ge k e with h | h
          · exact h
          · have : e = k := by omega
            subst this; exact absurd q1 h47
        refine ⟨k - i, e - i, l[k], Nat.le_refl _, by omega, ?_, ?_, ?_⟩
        · rw [win_get (by omega), show i + (k - i) = k by omega]; exact hc
        · intro h; rw [h] at hc; exact h47 hc
        · rw [win_get (by omega), show i + (e - i) = e by omega]; exact q1
    unfold cH
    by_cases hik : i ≤ k
    · by_cases hA : e < j
      · rw [if_pos ⟨hik, (shape i j hik).mpr ((key hik).mpr hA)⟩, if_pos (by omega)]
      · rw [if_neg fun h => hA ((key hik).mp ((shape i j hik).mp h.2)), if_neg (by omega)]
    · rw [if_neg fun h => hik h.1, if_neg (by omega)]
end PL

end
open PySem PyProof.Rows
set_option Elab.async false
namespace PL
open PySem.Calls
theorem plain_9 : Plain (recAt P2 9) := by constructor <;> decide +kernel
theorem bind_9 : ∀ (pm code doc : Value) (xs : List Value), xs.length = (parsAt P2 9).length → bindArgs (docDef (recAt P2 9).name (recAt P2 9).params (recAt P2 9).body (recAt P2 9).scope pm code doc) ⟨xs, []⟩ = pure ((parsAt P2 9).zip xs) := by
  intro pm code doc xs h
  have e : (parsAt P2 9).length = 1 := by kernel_rfl
  rw [e] at h
  obtain ⟨x, rfl⟩ := List.length_eq_one_iff.mp h
  kernel_rfl
theorem plain_11 : Plain (recAt P2 11) := by constructor <;> decide +kernel
theorem bind_11 : ∀ (pm code doc : Value) (xs : List Value), xs.length = (parsAt P2 11).length → bindArgs (docDef (recAt P2 11).name (recAt P2 11).params (recAt P2 11).body (recAt P2 11).scope pm code doc) ⟨xs, []⟩ = pure ((parsAt P2 11).zip xs) := by
  intro pm code doc xs h
  have e : (parsAt P2 11).length = 1 := by kernel_rfl
  rw [e] at h
  obtain ⟨x, rfl⟩ := List.length_eq_one_iff.mp h
  kernel_rfl
theorem plain_12 : Plain (recAt P2 12) := by constructor <;> decide +kernel
theorem bind_12 : ∀ (pm code doc : Value) (xs : List Value), xs.length = (parsAt P2 12).length → bindArgs (docDef (recAt P2 12).name (recAt P2 12).params (recAt P2 12).body (recAt P2 12).scope pm code doc) ⟨xs, []⟩ = pure ((parsAt P2 12).zip xs) := by
  intro pm code doc xs h
  have e : (parsAt P2 12).length = 1 := by kernel_rfl
  rw [e] at h
  obtain ⟨x, rfl⟩ := List.length_eq_one_iff.mp h
  kernel_rfl
theorem plain_13 : Plain (recAt P2 13) := by constructor <;> decide +kernel
theorem bind_13 : ∀ (pm code doc : Value) (xs : List Value), xs.length = (parsAt P2 13).length → bindArgs (docDef (recAt P2 13).name (recAt P2 13).params (recAt P2 13).body (recAt P2 13).scope pm code doc) ⟨xs, []⟩ = pure ((parsAt P2 13).zip xs) := by
  intro pm code doc xs h
  have e : (parsAt P2 13).length = 1 := by kernel_rfl
  rw [e] at h
  obtain ⟨x, rfl⟩ := List.length_eq_one_iff.mp h
  kernel_rfl
theorem plain_15 : Plain (recAt P2 15) := by constructor <;> decide +kernel
theorem bind_15 : ∀ (pm code doc : Value) (xs : List Value), xs.length = (parsAt P2 15).length → bindArgs (docDef (recAt P2 15).name (recAt P2 15).params (recAt P2 15).body (recAt P2 15).scope pm code doc) ⟨xs, []⟩ = pure ((parsAt P2 15).zip xs) := by
  intro pm code doc xs h
  have e : (parsAt P2 15).length = 1 := by kernel_rfl
  rw [e] at h
  obtain ⟨x, rfl⟩ := List.length_eq_one_iff.mp h
  kernel_rfl
theorem plain_16 : Plain (recAt P2 16) := by constructor <;> decide +kernel
theorem bind_16 : ∀ (pm code doc : Value) (xs : List Value), xs.length = (parsAt P2 16).length → bindArgs (docDef (recAt P2 16).name (recAt P2 16).params (recAt P2 16).body (recAt P2 16).scope pm code doc) ⟨xs, []⟩ = pure ((parsAt P2 16).zip xs) := by
  intro pm code doc xs h
  have e : (parsAt P2 16).length = 3 := by kernel_rfl
  rw [e] at h
  match xs, h with
  | [x, y, z], _ => kernel_rfl
theorem plain_17 : Plain (recAt P2 17) := by constructor <;> decide +kernel
theorem bind_17 : ∀ (pm code doc : Value) (xs : List Value), xs.length = (parsAt P2 17).length → bindArgs (docDef (recAt P2 17).name (recAt P2 17).params (recAt P2 17).body (recAt P2 17).scope pm code doc) ⟨xs, []⟩ = pure ((parsAt P2 17).zip xs) := by
  intro pm code doc xs h
  have e : (parsAt P2 17).length = 2 := by kernel_rfl
  rw [e] at h
  match xs, h with
  | [x, y], _ => kernel_rfl
theorem plain_18 : Plain (recAt P2 18) := by constructor <;> decide +kernel
theorem bind_18 : ∀ (pm code doc : Value) (xs : List Value), xs.length = (parsAt P2 18).length → bindArgs (docDef (recAt P2 18).name (recAt P2 18).params (recAt P2 18).body (recAt P2 18).scope pm code doc) ⟨xs, []⟩ = pure ((parsAt P2 18).zip xs) := by
  intro pm code doc xs h
  have e : (parsAt P2 18).length = 1 := by kernel_rfl
  rw [e] at h
  obtain ⟨x, rfl⟩ := List.length_eq_one_iff.mp h
  kernel_rfl
end PL
open PySem.W
set_option maxRecDepth 100000 in
set_option maxHeartbeats 8000000 in
theorem PySem.Challenge.cw_km0084_02_holds : PySem.Challenge.rw_km0084_02.Holds := by
  w_on; o_law; k_head; (case hw => w_witness2)
  w_strict (
    k_fill
    intro w s₀ s₁ mg mb G Y fa o pm cd doc dV kV ho hd hcd hD hmg hg args vals as hpre hlay hrd hwl hlo
    refine Ground.open G ?_
    intro T B D TE TW
    try (refine guard_noD D (by decide +kernel) ?_; clear D)
    have hlawname := hmg
    try (obtain ⟨_, _, he, B0⟩ := based_of_top T rfl hmg ho hd; have he' : cd = _ := he; subst he'; clear he)
    wrow_args hpre hlay hrd hwl hlo
    all_goals (
      first | refine callC_kw (enter_call ?_) | refine enter_call ?_ | refine callC_kw (enter_callW ?_) | refine enter_callW ?_ | w_how
      w_top on
      try refine codeAny_mono ?_ (fun _ _ g => GoodW.toG g)
      have hfree : PL.Free (PL.gdOf PySem.Challenge.rw_km0084_02.row.prog w s₁ T) PL.BI := PL.free_of T (by decide +kernel)
      obtain ⟨a9, h9⟩ := PL.fn_of (g := PL.gdOf PySem.Challenge.rw_km0084_02.row.prog w s₁ T) PL.plain_9 PL.bind_9 (T.fn (PL.recAt PL.P2 9) (List.mem_of_getElem? (i := 3) (by kernel_rfl)))
      obtain ⟨a11, h11⟩ := PL.fn_of (g := PL.gdOf PySem.Challenge.rw_km0084_02.row.prog w s₁ T) PL.plain_11 PL.bind_11 (T.fn (PL.recAt PL.P2 11) (List.mem_of_getElem? (i := 4) (by kernel_rfl)))
      obtain ⟨a12, h12⟩ := PL.fn_of (g := PL.gdOf PySem.Challenge.rw_km0084_02.row.prog w s₁ T) PL.plain_12 PL.bind_12 (T.fn (PL.recAt PL.P2 12) (List.mem_of_getElem? (i := 5) (by kernel_rfl)))
      obtain ⟨a13, h13⟩ := PL.fn_of (g := PL.gdOf PySem.Challenge.rw_km0084_02.row.prog w s₁ T) PL.plain_13 PL.bind_13 (T.fn (PL.recAt PL.P2 13) (List.mem_of_getElem? (i := 6) (by kernel_rfl)))
      obtain ⟨a15, h15⟩ := PL.fn_of (g := PL.gdOf PySem.Challenge.rw_km0084_02.row.prog w s₁ T) PL.plain_15 PL.bind_15 (T.fn (PL.recAt PL.P2 15) (List.mem_of_getElem? (i := 7) (by kernel_rfl)))
      obtain ⟨a16, h16⟩ := PL.fn_of (g := PL.gdOf PySem.Challenge.rw_km0084_02.row.prog w s₁ T) PL.plain_16 PL.bind_16 (T.fn (PL.recAt PL.P2 16) (List.mem_of_getElem? (i := 8) (by kernel_rfl)))
      obtain ⟨a17, h17⟩ := PL.fn_of (g := PL.gdOf PySem.Challenge.rw_km0084_02.row.prog w s₁ T) PL.plain_17 PL.bind_17 (T.fn (PL.recAt PL.P2 17) (List.mem_of_getElem? (i := 9) (by kernel_rfl)))
      obtain ⟨a18, h18⟩ := PL.fn_of (g := PL.gdOf PySem.Challenge.rw_km0084_02.row.prog w s₁ T) PL.plain_18 PL.bind_18 (T.fn (PL.recAt PL.P2 18) (List.mem_of_getElem? (i := 10) (by kernel_rfl)))
      have hfa : a18 = fa := by
        have e1 := h18.1
        have e2 := hlawname
        have e3 : some (Value.ref a18) = some (Value.ref fa) := e1.symm.trans e2
        cases e3; rfl
      subst hfa
      rename_i hlen63 _
      refine PL.finish T hg (by assumption) ?_ (raisesW_false ?_) ?_
      · refine PL.law_ok PL.count_H PL.count_T h18 ⟨hfree, h9, h11, h12, h13, h15, h16, h17⟩ ?_
        omega
      · wrow_none_raised
      · wrow_post))


