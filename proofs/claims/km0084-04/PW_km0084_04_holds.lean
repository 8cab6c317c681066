import PyProof.Rows.All
import Wide.All
import OpenK.AllK
import Wide.FinOn
import PySem.Challenge.RW_km0084_04
section
open PySem PySem.Calls PyProof.Rows
set_option Elab.async false
set_option linter.unusedVariables false
namespace PL

/-! abstract values -/
inductive V where
  | none
  | bool (b : Bool)
  | int (i : Int)
  | txt (o : Bool) (l : List Nat)
  | tup (vs : List V)
  | lst (vs : List V)
  | ref (a : Addr)
  | con (v : Value)
  | rng (a b c : Int)
  | opq (T : String)

abbrev Z := Addr → Option Obj
def Z.le (z z' : Z) : Prop := ∀ b o, z b = some o → z' b = some o
theorem Z.le_refl (z : Z) : Z.le z z := fun _ _ h => h
theorem Z.le_trans {a b c : Z} (h : Z.le a b) (k : Z.le b c) : Z.le a c := fun x o e => k x o (h x o e)
def Z.put (z : Z) (a : Addr) (o : Obj) : Z := fun b => if b = a then some o else z b

abbrev tupO (items : List Value) (n : Nat) : Obj := { cls := .type "tuple", data := .seq items.toArray n }
abbrev lstO (items : List Value) (n : Nat) : Obj := { cls := .type "list", data := .seq items.toArray n }

mutual
inductive Rep (z : Z) : V → Value → Prop
  | none : Rep z .none .none
  | bool (b : Bool) : Rep z (.bool b) (.bool b)
  | int (i : Int) (t : Tok) : Rep z (.int i) (.int i t)
  | str (l : List Nat) (t : Tok) : Rep z (.txt false l) (.str ⟨l.toArray⟩ t)
  | bytes (l : List Nat) (t : Tok) (h : ∀ c ∈ l, c < 256) : Rep z (.txt true l) (.bytes (l.map UInt8.ofNat).toArray t)
  | tup {vs : List V} {a : Addr} {items : List Value} {n : Nat} (h : z a = some (tupO items n)) (hr : RepL z vs items) : Rep z (.tup vs) (.ref a)
  | lst {vs : List V} {a : Addr} {items : List Value} {n : Nat} (h : z a = some (lstO items n)) (hr : RepL z vs items) : Rep z (.lst vs) (.ref a)
  | ref (a : Addr) : Rep z (.ref a) (.ref a)
  | con (v : Value) : Rep z (.con v) v
  | rng {x y w : Int} {a : Addr} {t u v : Tok} (h : z a = some { cls := .type "range", dict := none, data := .fields #[.int x t, .int y u, .int w v], slots := #[] }) : Rep z (.rng x y w) (.ref a)
  | opq {T : String} {a : Addr} {o : Obj} (h : z a = some o) (hc : o.cls = .type T) : Rep z (.opq T) (.ref a)
inductive RepL (z : Z) : List V → List Value → Prop
  | nil : RepL z [] []
  | cons {v : V} {x : Value} {vs : List V} {xs : List Value} (h : Rep z v x) (t : RepL z vs xs) : RepL z (v :: vs) (x :: xs)
end

mutual
theorem Rep.mono {z z' : Z} (h : Z.le z z') : ∀ {v : V} {x : Value}, Rep z v x → Rep z' v x
  | _, _, .none => .none
  | _, _, .bool b => .bool b
  | _, _, .int i t => .int i t
  | _, _, .str l t => .str l t
  | _, _, .bytes l t k => .bytes l t k
  | _, _, .tup e hr => .tup (h _ _ e) (hr.mono h)
  | _, _, .lst e hr => .lst (h _ _ e) (hr.mono h)
  | _, _, .ref a => .ref a
  | _, _, .con v => .con v
  | _, _, .rng e => .rng (h _ _ e)
  | _, _, .opq e hc => .opq (h _ _ e) hc
theorem RepL.mono {z z' : Z} (h : Z.le z z') : ∀ {v : List V} {x : List Value}, RepL z v x → RepL z' v x
  | _, _, .nil => .nil
  | _, _, .cons a b => .cons (a.mono h) (b.mono h)
end

theorem RepL.length {z : Z} : ∀ {vs : List V} {xs : List Value}, RepL z vs xs → xs.length = vs.length
  | _, _, .nil => rfl
  | _, _, .cons _ t => by simp [t.length]
theorem RepL.append {z : Z} : ∀ {vs vs' : List V} {xs xs' : List Value}, RepL z vs xs → RepL z vs' xs' → RepL z (vs ++ vs') (xs ++ xs')
  | _, _, _, _, .nil, h => h
  | _, _, _, _, .cons a t, h => .cons a (t.append h)
theorem RepL.get {z : Z} : ∀ {vs : List V} {xs : List Value}, RepL z vs xs → ∀ {i : Nat} {v : V}, vs[i]? = some v → ∃ x, xs[i]? = some x ∧ Rep z v x
  | _, _, .nil, i, v, h => by simp at h
  | _, _, .cons a t, 0, v, h => by simp at h; subst h; exact ⟨_, rfl, a⟩
  | _, _, .cons a t, i + 1, v, h => by simpa using t.get (i := i) (by simpa using h)

inductive RepP {K : Type} (z : Z) : List (K × V) → List (K × Value) → Prop
  | nil : RepP z [] []
  | cons {k : K} {v : V} {x : Value} {l : List (K × V)} {m : List (K × Value)} (h : Rep z v x) (t : RepP z l m) : RepP z ((k, v) :: l) ((k, x) :: m)
theorem RepP.mono {K : Type} {z z' : Z} (h : Z.le z z') {l : List (K × V)} {m : List (K × Value)} (r : RepP z l m) : RepP z' l m := by
  induction r with
  | nil => exact .nil
  | cons a _ ih => exact .cons (a.mono h) ih

/-! the live objects of the ledger -/
inductive AO where
  | list (vs : List V)
  | dictS (kvs : List (Str × V))
  | dictI (kvs : List (Int × V))

structure Gd where
  prog : Program
  w : World
  base : Heap
  os : OsState
  mg : Str → Option Value
  mb : Str → Option Value
  hmg : base.Ns mainGlobals mg
  hmb : base.Ns builtinsNs mb
  lim : base.NoLimit
  hbi : ∀ x : Str, x ≠ "__name__" → mb x = bootBuiltins x

def strOf (l : List Nat) : Str := ⟨l.toArray⟩

def AOK (g : Gd) (z : Z) (h : Heap) (a : Addr) : AO → Prop
  | .list vs => ∃ items n, h.get? a = some (lstO items n) ∧ RepL z vs items
  | .dictS kvs => ∃ ys, h.DictOf (strKind g.prog g.w) a ys ∧ RepP z kvs ys ∧ (a == sysModules) = false
  | .dictI kvs => ∃ ys, h.DictOf (intKind g.prog g.w) a ys ∧ RepP z kvs ys ∧ (a == sysModules) = false

theorem AOK.mono {g : Gd} {z z' : Z} {h : Heap} {a : Addr} (hz : Z.le z z') : ∀ {o : AO}, AOK g z h a o → AOK g z' h a o
  | .list _, ⟨i, n, x, r⟩ => ⟨i, n, x, r.mono hz⟩
  | .dictS _, ⟨i, x, r, m⟩ => ⟨i, x, r.mono hz, m⟩
  | .dictI _, ⟨i, x, r, m⟩ => ⟨i, x, r.mono hz, m⟩
theorem AOK.keep {g : Gd} {z : Z} {h h' : Heap} {a : Addr} (e : ∀ o, h.get? a = some o → h'.get? a = some o) : ∀ {o : AO}, AOK g z h a o → AOK g z h' a o
  | .list _, ⟨i, n, x, r⟩ => ⟨i, n, e _ x, r⟩
  | .dictS _, ⟨i, x, r⟩ => ⟨i, let ⟨o, es, ep, ho, q⟩ := x; ⟨o, es, ep, e o ho, q⟩, r⟩
  | .dictI _, ⟨i, x, r⟩ => ⟨i, let ⟨o, es, ep, ho, q⟩ := x; ⟨o, es, ep, e o ho, q⟩, r⟩

abbrev Led := List (Addr × AO)
structure St where
  loc : List (Str × V)
  H : Led

/-- the heap's part of the relation -/
structure RH (g : Gd) (zs : Z) (H : Led) (z : Z) (s : Shared) : Prop where
  hz : ∀ b o, z b = some o → s.heap.get? b = some o
  hbase : ∀ b o, g.base.get? b = some o → z b = some o
  hzs : ∀ b o, zs b = some o → ∃ sl, s.heap.get? b = some { o with slots := sl } ∧ ((∀ vs, o.data ≠ .dict vs) → sl = o.slots)
  disj : ∀ b o, zs b = some o → z b = none
  hH : ∀ p ∈ H, AOK g z s.heap p.1 p.2 ∧ z p.1 = none ∧ zs p.1 = none
  nodup : (H.map (·.1)).Nodup
  gens : s.gens = #[]
  os : s.os = g.os

structure Cx where
  g : Gd
  A : Around
  env : Env
  outer : List Env
  n : Nat
  ro : List Str := []
  hk : env.scope.kind = .function
  hglob : env.globals = mainGlobals
  hbuilt : env.builtins = builtinsNs
  hdep : A.depth + n ≤ 900
  hunits : A.units + 20 * n ≤ 9000
  hframes : (A.frames = some (env :: outer) ∧ env.frame = some env.locals) ∨ A.frames = some outer
  apart : env.cells.Pairwise fun x y => x.2 ≠ y.2

abbrev Cx.M (C : Cx) : Model := model C.g.prog C.g.w

def cellish : Option NameKind → Bool
  | some .cell => true
  | some .free => true
  | _ => false

structure FrOK (outer : List Env) (zs : Z) : Prop where
  ok : ∀ e ∈ outer, e.scope.kind ≠ .module ∧ ∃ L o, e.frame = some L ∧ zs L = some o ∧ ∀ vs, o.data ≠ .fields vs

structure R (C : Cx) (zs : Z) (σ : St) (z : Z) (s : Shared) : Prop where
  rh : RH C.g zs σ.H z s
  ns : ∃ m, s.heap.Ns C.env.locals m ∧ ∀ x v, σ.loc.lookup x = some v → C.env.kindOf x = some .local → ∃ val, m x = some val ∧ Rep z v val
  cells : ∀ x v, σ.loc.lookup x = some v → cellish (C.env.kindOf x) = true → ∃ c val, C.env.cells.lookup x = some c ∧ s.heap.IsCell c (some val) ∧ Rep z v val
  cellsOk : ∀ p ∈ C.env.cells, (∃ ov, s.heap.IsCell p.2 ov) ∧ z p.2 = none ∧ (zs p.2 = none ∨ p.1 ∈ C.ro) ∧ p.2 ≠ C.env.locals ∧ p.2 ∉ σ.H.map (·.1)
  locFree : z C.env.locals = none ∧ zs C.env.locals = none ∧ C.env.locals ∉ σ.H.map (·.1)
  fr : FrOK C.outer zs

abbrev XP := String → St → Prop

/-- a flying exception (what a handler needs of it) -/
structure Fly (g : Gd) (zs : Z) (H : Led) (z : Z) (s : Shared) (e : Value) (cls : String) : Prop where
  no : False

def PX (C : Cx) (zs z : Z) (X : XP) (e : Value) (s' : Shared) : Prop :=
  ∃ z' σ' cls, Z.le z z' ∧ R C zs σ' z' s' ∧ Fly C.g zs σ'.H z' s' e cls ∧ X cls σ'
theorem PX.le {C : Cx} {zs z z1 : Z} {X : XP} {e : Value} {s : Shared} (h : Z.le z z1) : PX C zs z1 X e s → PX C zs z X e s :=
  fun ⟨z', σ', cls, l, r, f, x⟩ => ⟨z', σ', cls, Z.le_trans h l, r, f, x⟩

def TT {α : Type} (C : Cx) (z₀ : Z) (t : Sem α) (P : Z → α → St → Prop) (X : XP) (σ : St) : Prop :=
  ∀ zs z s, Z.le z₀ z → R C zs σ z s →
    wpAny C.M C.A t (fun a s' => ∃ z' σ', Z.le z z' ∧ R C zs σ' z' s' ∧ P z' a σ') (PX C zs z X) s

section
variable {α β : Type} {C : Cx} {z₀ : Z} {X : XP} {σ : St}

theorem TT.bind {m : Sem α} {f : α → Sem β} {P : Z → β → St → Prop} (h : TT C z₀ m (fun z a σ1 => TT C z (f a) P X σ1) X σ) : TT C z₀ (m >>= f) P X σ := by
  intro zs z s hz hR
  refine wpAny_bind (wpAny_mono (h zs z s hz hR) ?_ fun _ _ x => x)
  rintro a s1 ⟨z1, σ1, l1, R1, k⟩
  refine wpAny_mono (k zs z1 s1 (Z.le_refl _) R1) ?_ fun _ _ x => PX.le l1 x
  rintro b s2 ⟨z2, σ2, l2, R2, q⟩
  exact ⟨z2, σ2, Z.le_trans l1 l2, R2, q⟩
theorem TT.pure {a : α} {P : Z → α → St → Prop} (h : ∀ z, Z.le z₀ z → P z a σ) : TT C z₀ (Pure.pure a) P X σ :=
  fun _ z _ hz hR => wpAny_pure ⟨z, σ, Z.le_refl _, hR, h z hz⟩
theorem TT.mono {t : Sem α} {P P' : Z → α → St → Prop} (h : TT C z₀ t P X σ) (k : ∀ z a σ', Z.le z₀ z → P z a σ' → P' z a σ') : TT C z₀ t P' X σ := by
  intro zs z s hz hR
  refine wpAny_mono (h zs z s hz hR) ?_ fun _ _ x => x
  rintro a s1 ⟨z1, σ1, l1, R1, q⟩
  exact ⟨z1, σ1, l1, R1, k _ _ _ (Z.le_trans hz l1) q⟩
theorem TT.eq {t : Sem α} {a : α} {P : Z → α → St → Prop} (e : t = Pure.pure a) (h : ∀ z, Z.le z₀ z → P z a σ) : TT C z₀ t P X σ := e ▸ TT.pure h
theorem TT.holding {vs : List Value} {t : Sem α} {P : Z → α → St → Prop} (h : TT C z₀ t P X σ) : TT C z₀ (PySem.holding vs t) P X σ :=
  fun zs z s hz hR => wpAny_holding (h zs z s hz hR)
theorem TT.operate {vs : List Value} {t : Sem Value} {P : Z → Value → St → Prop} (h : TT C z₀ t P X σ) : TT C z₀ (PySem.operate vs t) P X σ :=
  fun zs z s hz hR => wpAny_operate' (h zs z s hz hR)
theorem TT.at_ {p : Pos} {f : Unit → Sem α} {P : Z → α → St → Prop} (h : TT C z₀ (f ()) P X σ) : TT C z₀ (standAt p >>= f) P X σ :=
  fun zs z s hz hR => wpAny_bind (wpAny_standAt (h zs z s hz hR))
end

/-- what an expression hands on -/
def PVal (Q : V → St → Prop) : Z → Value → St → Prop := fun z val σ => ∃ v, Rep z v val ∧ Q v σ
def TE (C : Cx) (e : Expr) (Q : V → St → Prop) (X : XP) (σ : St) : Prop := ∀ z₀, TT C z₀ (eval e C.env) (PVal Q) X σ

inductive Fl where
  | next | brk | cont
  | ret (v : V)
inductive RepF (z : Z) : Fl → Flow → Prop
  | next : RepF z .next .next
  | brk : RepF z .brk .brk
  | cont : RepF z .cont .cont
  | ret {v : V} {x : Value} (h : Rep z v x) : RepF z (.ret v) (.ret x)
def PFl (Q : Fl → St → Prop) : Z → Flow → St → Prop := fun z f σ => ∃ fl, RepF z fl f ∧ Q fl σ
def TS (C : Cx) (st : Stmt) (Q : Fl → St → Prop) (X : XP) (σ : St) : Prop := ∀ z₀, TT C z₀ (exec st C.env) (PFl Q) X σ
def TSs (C : Cx) (sts : List Stmt) (Q : Fl → St → Prop) (X : XP) (σ : St) : Prop := ∀ z₀, TT C z₀ (execs sts C.env) (PFl Q) X σ
/-- a test -/
def TB (C : Cx) (e : Expr) (Q : Bool → St → Prop) (X : XP) (σ : St) : Prop := ∀ z₀, TT C z₀ (isTrue e C.env (eval e C.env)) (fun _ b σ' => Q b σ') X σ

section
variable {C : Cx} {zs z : Z} {σ : St} {s : Shared}

theorem RH.grow {g : Gd} {H : Led} (r : RH g zs H z s) {h' : Heap} {t : Nat} (k : ∀ b o, s.heap.get? b = some o → h'.get? b = some o) : RH g zs H z { s with heap := h', toks := t } where
  hz b o e := k b o (r.hz b o e)
  hbase := r.hbase
  hzs b o e := let ⟨sl, q, w⟩ := r.hzs b o e; ⟨sl, k _ _ q, w⟩
  disj := r.disj
  hH p hp := let ⟨a, b⟩ := r.hH p hp; ⟨a.keep fun o ho => k _ _ ho, b⟩
  nodup := r.nodup
  gens := r.gens
  os := r.os
theorem R.grow (r : R C zs σ z s) {h' : Heap} {t : Nat} (k : ∀ b o, s.heap.get? b = some o → h'.get? b = some o) : R C zs σ z { s with heap := h', toks := t } where
  rh := r.rh.grow k
  ns := let ⟨m, a, b⟩ := r.ns; ⟨m, a.keeps k, b⟩
  cells x v h1 h2 := let ⟨c, val, a, b, d⟩ := r.cells x v h1 h2; ⟨c, val, a, b.keeps k, d⟩
  cellsOk p hp := let ⟨⟨ov, a⟩, b⟩ := r.cellsOk p hp; ⟨⟨ov, a.keeps k⟩, b⟩
  locFree := r.locFree
  fr := r.fr
theorem R.toks (r : R C zs σ z s) (t : Nat) : R C zs σ z { s with toks := t } := r.grow fun _ _ e => e
theorem R.push (r : R C zs σ z s) (o : Obj) (t : Nat) : R C zs σ z { s with heap := s.heap.push o, toks := t } := r.grow fun _ _ e => Heap.get?_push_of_some _ e
theorem R.push' (r : R C zs σ z s) (o : Obj) : R C zs σ z { s with heap := s.heap.push o } := r.push o s.toks

def Apart (C : Cx) (zs : Z) (σ : St) (a : Addr) : Prop := zs a = none ∧ a ≠ C.env.locals ∧ a ∉ σ.H.map (·.1) ∧ ∀ p ∈ C.env.cells, p.2 ≠ a

theorem RH.lt_z {g : Gd} {H : Led} (r : RH g zs H z s) {b : Addr} {o : Obj} (e : z b = some o) : b < s.heap.objs.size := Heap.lt_size (r.hz b o e)
theorem RH.fresh_z {g : Gd} {H : Led} (r : RH g zs H z s) {b : Addr} (e : s.heap.objs.size ≤ b) : z b = none := by
  cases h : z b with
  | none => rfl
  | some o => exact absurd (r.lt_z h) (Nat.not_lt.mpr e)
theorem RH.fresh_zs {g : Gd} {H : Led} (r : RH g zs H z s) {b : Addr} (e : s.heap.objs.size ≤ b) : zs b = none := by
  cases h : zs b with
  | none => rfl
  | some o => obtain ⟨sl, q, _⟩ := r.hzs _ _ h; exact absurd (Heap.lt_size q) (Nat.not_lt.mpr e)
theorem AOK.lt {g : Gd} {h : Heap} {a : Addr} : ∀ {o : AO}, AOK g z h a o → a < h.objs.size
  | .list _, ⟨_, _, ho, _⟩ => Heap.lt_size ho
  | .dictS _, ⟨_, ⟨_, _, _, ho, _⟩, _⟩ => Heap.lt_size ho
  | .dictI _, ⟨_, ⟨_, _, _, ho, _⟩, _⟩ => Heap.lt_size ho
theorem RH.fresh_H {g : Gd} {H : Led} (r : RH g zs H z s) {b : Addr} (e : s.heap.objs.size ≤ b) : b ∉ H.map (·.1) := by
  intro hb
  obtain ⟨p, hp, rfl⟩ := List.mem_map.mp hb
  exact absurd (r.hH p hp).1.lt (Nat.not_lt.mpr e)
theorem R.apart_new (r : R C zs σ z s) {a : Addr} (h : s.heap.objs.size ≤ a) : Apart C zs σ a := by
  refine ⟨r.rh.fresh_zs h, ?_, r.rh.fresh_H h, ?_⟩
  · intro e
    obtain ⟨m, n, _⟩ := r.ns
    exact absurd n.lt (Nat.not_lt.mpr (e ▸ h))
  · intro p hp e
    obtain ⟨⟨ov, c⟩, _⟩ := r.cellsOk p hp
    exact absurd c.lt (Nat.not_lt.mpr (e ▸ h))

theorem Z.le_put {g : Gd} {H : Led} (r : RH g zs H z s) {a : Addr} {o : Obj} (e : s.heap.get? a = some o) : Z.le z (z.put a o) := by
  intro b o' hb
  unfold Z.put
  by_cases h : b = a
  · subst h; rw [if_pos rfl]; rw [r.hz _ _ hb] at e; exact e.symm
  · rw [if_neg h]; exact hb
theorem put_ne {a b : Addr} {o : Obj} (h : b ≠ a) (e : z b = none) : z.put a o b = none := by unfold Z.put; rw [if_neg h]; exact e
theorem put_self {a : Addr} {o : Obj} : z.put a o a = some o := if_pos rfl

theorem RH.freeze {g : Gd} {H : Led} (r : RH g zs H z s) {a : Addr} {o : Obj} (e : s.heap.get? a = some o) (h1 : zs a = none) (h2 : a ∉ H.map (·.1)) : RH g zs H (z.put a o) s where
  hz b o' h := by
    unfold Z.put at h
    by_cases hb : b = a
    · subst hb; rw [if_pos rfl] at h; cases h; exact e
    · rw [if_neg hb] at h; exact r.hz b o' h
  hbase b o' h := Z.le_put r e _ _ (r.hbase b o' h)
  hzs := r.hzs
  disj b o' h := put_ne (fun q => by subst q; rw [h1] at h; cases h) (r.disj b o' h)
  hH p hp := by
    obtain ⟨x, y, w⟩ := r.hH p hp
    refine ⟨x.mono (Z.le_put r e), put_ne (fun q => h2 ?_) y, w⟩
    rw [← q]; exact List.mem_map_of_mem hp
  nodup := r.nodup
  gens := r.gens
  os := r.os
theorem R.freeze (r : R C zs σ z s) {a : Addr} {o : Obj} (e : s.heap.get? a = some o) (q : Apart C zs σ a) : R C zs σ (z.put a o) s where
  rh := r.rh.freeze e q.1 q.2.2.1
  ns := let ⟨m, x, y⟩ := r.ns; ⟨m, x, fun n v h1 h2 => let ⟨val, u, w⟩ := y n v h1 h2; ⟨val, u, w.mono (Z.le_put r.rh e)⟩⟩
  cells x v h1 h2 := let ⟨c, val, u, w, t⟩ := r.cells x v h1 h2; ⟨c, val, u, w, t.mono (Z.le_put r.rh e)⟩
  cellsOk p hp := let ⟨u, w, t⟩ := r.cellsOk p hp; ⟨u, put_ne (q.2.2.2 p hp) w, t⟩
  locFree := ⟨put_ne (Ne.symm q.2.1) r.locFree.1, r.locFree.2⟩
  fr := r.fr

/-- a new object goes into the frozen part -/
theorem R.frozen (r : R C zs σ z s) (o : Obj) (t : Nat) (hf : o.isFreed = false := by rfl) :
    R C zs σ (z.put s.heap.objs.size o) { s with heap := s.heap.push o, toks := t } ∧ Z.le z (z.put s.heap.objs.size o) :=
  have e : ({ s with heap := s.heap.push o, toks := t } : Shared).heap.get? s.heap.objs.size = some o := Heap.get?_push_size _ hf
  have r' := r.push o t
  ⟨r'.freeze e (r.apart_new (Nat.le_refl _)), Z.le_put r'.rh e⟩

/-- a new object goes onto the ledger -/
theorem RH.ledger {g : Gd} {H : Led} (r : RH g zs H z s) {a : Addr} {o : AO} (h : AOK g z s.heap a o) (h0 : z a = none) (h1 : zs a = none) (h2 : a ∉ H.map (·.1)) : RH g zs ((a, o) :: H) z s where
  hz := r.hz
  hbase := r.hbase
  hzs := r.hzs
  disj := r.disj
  hH p hp := by
    rcases List.mem_cons.mp hp with e | hp
    · subst e; exact ⟨h, h0, h1⟩
    · exact r.hH p hp
  nodup := by rw [List.map_cons]; exact List.nodup_cons.mpr ⟨h2, r.nodup⟩
  gens := r.gens
  os := r.os
theorem R.ledger (r : R C zs σ z s) {a : Addr} {o : AO} (h : AOK C.g z s.heap a o) (h0 : z a = none) (q : Apart C zs σ a) : R C zs ⟨σ.loc, (a, o) :: σ.H⟩ z s where
  rh := r.rh.ledger h h0 q.1 q.2.2.1
  ns := r.ns
  cells := r.cells
  cellsOk p hp := let ⟨u, w, t, v, y⟩ := r.cellsOk p hp; ⟨u, w, t, v, by
    rw [List.map_cons, List.mem_cons]; exact fun e => e.elim (q.2.2.2 p hp) y⟩
  locFree := ⟨r.locFree.1, r.locFree.2.1, by
    rw [List.map_cons, List.mem_cons]; exact fun e => e.elim (fun e => q.2.1 e.symm) r.locFree.2.2⟩
  fr := r.fr

inductive Upd (a : Addr) (o o' : AO) : Led → Led → Prop
  | head {t : Led} : Upd a o o' ((a, o) :: t) ((a, o') :: t)
  | tail {p : Addr × AO} {t t' : Led} (h : Upd a o o' t t') : Upd a o o' (p :: t) (p :: t')
theorem Upd.keys {a : Addr} {o o' : AO} {H H' : Led} (u : Upd a o o' H H') : H'.map (·.1) = H.map (·.1) := by
  induction u with
  | head => rfl
  | tail _ ih => simp [ih]
theorem Upd.mem {a : Addr} {o o' : AO} {H H' : Led} (u : Upd a o o' H H') : (a, o) ∈ H := by
  induction u with
  | head => exact List.mem_cons_self
  | tail _ ih => exact List.mem_cons_of_mem _ ih
theorem Upd.of_mem {a : Addr} {o o' : AO} {H H' : Led} (u : Upd a o o' H H') (hn : (H.map (·.1)).Nodup) : ∀ p ∈ H', p = (a, o') ∨ (p ∈ H ∧ p.1 ≠ a) := by
  induction u with
  | head =>
    intro p hp
    rw [List.map_cons, List.nodup_cons] at hn
    rcases List.mem_cons.mp hp with e | hp
    · exact .inl e
    · exact .inr ⟨List.mem_cons_of_mem _ hp, fun e => hn.1 (e ▸ List.mem_map_of_mem (f := (·.1)) hp)⟩
  | tail u' ih =>
    intro p hp
    rw [List.map_cons, List.nodup_cons] at hn
    rcases List.mem_cons.mp hp with e | hp
    · subst e
      exact .inr ⟨List.mem_cons_self, fun e => hn.1 (e ▸ List.mem_map_of_mem (f := (·.1)) u'.mem)⟩
    · exact (ih hn.2 p hp).imp id fun ⟨x, y⟩ => ⟨List.mem_cons_of_mem _ x, y⟩

theorem RH.upd {g : Gd} {H H' : Led} (r : RH g zs H z s) {a : Addr} {o o' : AO} (u : Upd a o o' H H') {h' : Heap} {t : Nat} (hs : Heap.SameBut a s.heap h') (k : AOK g z h' a o') :
    RH g zs H' z { s with heap := h', toks := t } where
  hz b o e := (hs.2 b fun q => by have := (r.hH _ u.mem).2.1; subst q; rw [this] at e; cases e).trans (r.hz b o e)
  hbase := r.hbase
  hzs b o e := let ⟨sl, q, w⟩ := r.hzs b o e; ⟨sl, (hs.2 b fun q => by have := (r.hH _ u.mem).2.2; subst q; rw [this] at e; cases e).trans q, w⟩
  disj := r.disj
  hH p hp := by
    rcases u.of_mem r.nodup p hp with e | ⟨hm, hn⟩
    · subst e; exact ⟨k, (r.hH _ u.mem).2⟩
    · obtain ⟨x, y⟩ := r.hH p hm
      exact ⟨x.keep fun o ho => (hs.2 _ hn).trans ho, y⟩
  nodup := by rw [u.keys]; exact r.nodup
  gens := r.gens
  os := r.os
theorem R.upd {H' : Led} (r : R C zs σ z s) {a : Addr} {o o' : AO} (u : Upd a o o' σ.H H') {h' : Heap} {t : Nat} (hs : Heap.SameBut a s.heap h') (k : AOK C.g z h' a o') :
    R C zs ⟨σ.loc, H'⟩ z { s with heap := h', toks := t } where
  rh := r.rh.upd u hs k
  ns := let ⟨m, x, y⟩ := r.ns; ⟨m, x.sameBut hs fun e => r.locFree.2.2 (e ▸ List.mem_map_of_mem (f := (·.1)) u.mem), y⟩
  cells x v h1 h2 := let ⟨c, val, p, q, w⟩ := r.cells x v h1 h2
    ⟨c, val, p, q.sameBut hs fun e => (r.cellsOk (x, c) (mem_of_lookup p)).2.2.2.2 (e ▸ List.mem_map_of_mem (f := (·.1)) u.mem), w⟩
  cellsOk p hp := let ⟨⟨ov, x⟩, y, w, q, n⟩ := r.cellsOk p hp
    ⟨⟨ov, x.sameBut hs fun e => n (e ▸ List.mem_map_of_mem (f := (·.1)) u.mem)⟩, y, w, q, by show p.2 ∉ H'.map (·.1); rw [u.keys]; exact n⟩
  locFree := ⟨r.locFree.1, r.locFree.2.1, by show _ ∉ H'.map (·.1); rw [u.keys]; exact r.locFree.2.2⟩
  fr := r.fr

/-- less is known -/
theorem R.weaken {σ' : St} (r : R C zs σ z s) (h1 : ∀ x v, σ'.loc.lookup x = some v → σ.loc.lookup x = some v) (h2 : σ'.H.Sublist σ.H) : R C zs σ' z s where
  rh := { r.rh with hH := fun p hp => r.rh.hH p (h2.subset hp), nodup := r.rh.nodup.sublist (h2.map _) }
  ns := let ⟨m, x, y⟩ := r.ns; ⟨m, x, fun n v a b => y n v (h1 n v a) b⟩
  cells x v a b := r.cells x v (h1 x v a) b
  cellsOk p hp := let ⟨a, b, c, d, e⟩ := r.cellsOk p hp; ⟨a, b, c, d, fun q => e ((h2.map _).subset q)⟩
  locFree := ⟨r.locFree.1, r.locFree.2.1, fun q => r.locFree.2.2 ((h2.map _).subset q)⟩
  fr := r.fr
end

theorem TT.weaken {α : Type} {C : Cx} {z₀ : Z} {t : Sem α} {P : Z → α → St → Prop} {X : XP} {σ σ' : St} (h1 : ∀ x v, σ'.loc.lookup x = some v → σ.loc.lookup x = some v) (h2 : σ'.H.Sublist σ.H)
    (h : TT C z₀ t P X σ') : TT C z₀ t P X σ := fun zs z s hz hR => h zs z s hz (hR.weaken h1 h2)
end PL

end
section
open PySem PySem.Calls PyProof.Rows
set_option Elab.async false
set_option linter.unusedVariables false
set_option linter.unusedSimpArgs false
namespace PL

def setL : List (Str × V) → Str → V → List (Str × V)
  | [], x, v => [(x, v)]
  | (y, w) :: r, x, v => if x == y then (y, v) :: r else (y, w) :: setL r x v
theorem lookup_setL (x : Str) (v : V) (y : Str) : ∀ l : List (Str × V), (setL l x v).lookup y = if y = x then some v else l.lookup y
  | [] => by
    by_cases h : y = x
    · subst h; simp [setL, List.lookup]
    · have : (y == x) = false := beq_eq_false_iff_ne.mpr h
      simp [setL, List.lookup, this, h]
  | (k, w) :: r => by
    unfold setL
    by_cases hk : x = k
    · subst hk
      rw [if_pos (by simp)]
      by_cases h : y = x
      · subst h; simp [List.lookup]
      · have : (y == x) = false := beq_eq_false_iff_ne.mpr h
        simp [List.lookup, this, h]
    · rw [if_neg (by simpa using hk)]
      by_cases h : y = k
      · subst h
        have hyx : ¬ y = x := fun e => hk e.symm
        simp [List.lookup, hyx]
      · have : (y == k) = false := beq_eq_false_iff_ne.mpr h
        rw [List.lookup_cons, this]
        simp only
        rw [lookup_setL x v y r, List.lookup_cons, this]

section
variable {C : Cx} {X : XP} {σ : St} {zs z z₀ : Z} {s : Shared}

theorem RH.base {g : Gd} {H : Led} (r : RH g zs H z s) : ∀ b o, g.base.get? b = some o → s.heap.get? b = some o := fun b o e => r.hz b o (r.hbase b o e)

/-- a value handed on with no change of the state but the tokens -/
theorem PVal.toks {Q : V → St → Prop} (hR : R C zs σ z s) {v : V} {x : Value} {t : Nat} (r : Rep z v x) (h : Q v σ) :
    ∃ z' σ', Z.le z z' ∧ R C zs σ' z' { s with toks := t } ∧ PVal Q z' x σ' := ⟨z, σ, Z.le_refl _, hR.toks t, v, r, h⟩
theorem PVal.same {Q : V → St → Prop} (hR : R C zs σ z s) {v : V} {x : Value} (r : Rep z v x) (h : Q v σ) :
    ∃ z' σ', Z.le z z' ∧ R C zs σ' z' s ∧ PVal Q z' x σ' := ⟨z, σ, Z.le_refl _, hR, v, r, h⟩

theorem TE.name_local {x : Str} {p : Pos} {v : V} {Q : V → St → Prop} (hl : C.env.kindOf x = some .local) (hv : σ.loc.lookup x = some v) (h : Q v σ) (hd : (x == ("__debug__" : Str)) = false := by decide) :
    TE C (.Name x p) Q X σ := by
  intro z₀ zs z s hz hR
  obtain ⟨m, hn, hm⟩ := hR.ns
  obtain ⟨val, e, r⟩ := hm x v hv hl
  exact wpAny_Name (wpAny_loadName_local C.hk hl hn e (PVal.same hR r h)) hd
theorem TE.name_glob {x : Str} {p : Pos} {v : Value} {Q : V → St → Prop} (hl : C.env.kindOf x = some .globalImplicit) (hv : C.g.mg x = some v) (h : Q (.con v) σ) (hd : (x == ("__debug__" : Str)) = false := by decide) :
    TE C (.Name x p) Q X σ := by
  intro z₀ zs z s hz hR
  refine Name_function_global C.hk hl (loadGlobal_global (mg := C.g.mg) ?_ hv (PVal.same hR (.con v) h)) hd
  rw [C.hglob]; exact C.g.hmg.keeps hR.rh.base
theorem TE.name_builtin {x : Str} {p : Pos} {v : Value} {Q : V → St → Prop} (hl : C.env.kindOf x = some .globalImplicit) (hm : C.g.mg x = none) (hv : bootBuiltins x = some v) (h : Q (.con v) σ)
    (hd : (x == ("__debug__" : Str)) = false := by decide) (hn : x ≠ "__name__" := by decide) : TE C (.Name x p) Q X σ := by
  intro z₀ zs z s hz hR
  refine Name_function_global C.hk hl (loadGlobal_builtin (mg := C.g.mg) (mb := C.g.mb) ?_ hm ?_ ((C.g.hbi x hn).trans hv) (PVal.same hR (.con v) h)) hd
  · rw [C.hglob]; exact C.g.hmg.keeps hR.rh.base
  · rw [C.hbuilt]; exact C.g.hmb.keeps hR.rh.base

theorem TE.const_int {i : Int} {k : Nat} {p : Pos} {Q : V → St → Prop} (h : Q (.int i) σ) : TE C (.Constant (.int i) k p) Q X σ :=
  fun z₀ zs z s hz hR => wpAny_Constant_int (PVal.toks hR (.int i _) h)
theorem TE.const_bool {b : Bool} {k : Nat} {p : Pos} {Q : V → St → Prop} (h : Q (.bool b) σ) : TE C (.Constant (.bool b) k p) Q X σ :=
  fun z₀ zs z s hz hR => wpAny_Constant_bool (PVal.same hR (.bool b) h)
theorem rep_str (x : Str) (t : Tok) : Rep z (.txt false x.cps.toList) (.str x t) := by
  have : x = ⟨x.cps.toList.toArray⟩ := by simp
  conv => rhs; rw [this]
  exact .str _ t
theorem TE.const_str {x : Str} {k : Nat} {p : Pos} {Q : V → St → Prop} (h : Q (.txt false x.cps.toList) σ) : TE C (.Constant (.str x) k p) Q X σ :=
  fun z₀ zs z s hz hR => wpAny_Constant_str (PVal.toks hR (rep_str x _) h)
theorem rep_bytes (b : List UInt8) (t : Tok) : Rep z (.txt true (b.map UInt8.toNat)) (.bytes b.toArray t) := by
  have : b = (b.map UInt8.toNat).map UInt8.ofNat := by simp [List.map_map, Function.comp_def]
  conv => rhs; rw [this]
  exact .bytes _ t (fun c hc => by
    obtain ⟨d, _, rfl⟩ := List.mem_map.mp hc
    exact UInt8.toNat_lt d)
theorem TE.const_bytes {b : List UInt8} {k : Nat} {p : Pos} {Q : V → St → Prop} (h : Q (.txt true (b.map UInt8.toNat)) σ) : TE C (.Constant (.bytes b) k p) Q X σ :=
  fun z₀ zs z s hz hR => wpAny_mkTextBytes (PVal.toks hR (rep_bytes b _) h)

/-! operators -/
def Bin (C : Cx) (op : Operator) (a b : V) (Q : V → St → Prop) (X : XP) (σ : St) : Prop := ∀ z₀ x y, Rep z₀ a x → Rep z₀ b y → TT C z₀ (binaryOp op x y) (PVal Q) X σ
def Inp (C : Cx) (op : Operator) (a b : V) (Q : V → St → Prop) (X : XP) (σ : St) : Prop := ∀ z₀ x y, Rep z₀ a x → Rep z₀ b y → TT C z₀ (inplaceOp op x y) (PVal Q) X σ
def Un (C : Cx) (op : UnaryOp) (a : V) (Q : V → St → Prop) (X : XP) (σ : St) : Prop := ∀ z₀ x, Rep z₀ a x → TT C z₀ (unaryOp op x) (PVal Q) X σ
def Cmp (C : Cx) (op : CmpOp) (a b : V) (Q : V → St → Prop) (X : XP) (σ : St) : Prop := ∀ z₀ x y, Rep z₀ a x → Rep z₀ b y → TT C z₀ (compareOp op x y) (PVal Q) X σ
def Tru (C : Cx) (a : V) (Q : Bool → St → Prop) (X : XP) (σ : St) : Prop := ∀ z₀ x, Rep z₀ a x → TT C z₀ (truthy x) (fun _ b σ' => Q b σ') X σ

theorem TE.binop {l r : Expr} {op : Operator} {p : Pos} {Q : V → St → Prop} (h : TE C l (fun a σ1 => TE C r (fun b σ2 => Bin C op a b Q X σ2) X σ1) X σ) : TE C (.BinOp l op r p) Q X σ := by
  intro z₀
  rw [eval_BinOp]
  refine TT.bind (TT.mono (h z₀) ?_)
  rintro z a σ1 l1 ⟨va, ra, h1⟩
  refine TT.bind (TT.holding (TT.mono (h1 z) ?_))
  rintro z' b σ2 l2 ⟨vb, rb, h2⟩
  exact TT.at_ (TT.operate (h2 z' a b (ra.mono l2) rb))
theorem TE.unop {x : Expr} {op : UnaryOp} {p : Pos} {Q : V → St → Prop} (h : TE C x (fun a σ1 => Un C op a Q X σ1) X σ) : TE C (.UnaryOp op x p) Q X σ := by
  intro z₀
  rw [arm_eval_UnaryOp]
  refine TT.bind (TT.mono (h z₀) ?_)
  rintro z a σ1 l1 ⟨va, ra, h1⟩
  exact TT.at_ (TT.holding (h1 z a ra))
theorem TE.cmp {l r : Expr} {op : CmpOp} {p : Pos} {Q : V → St → Prop} (h : TE C l (fun a σ1 => TE C r (fun b σ2 => Cmp C op a b Q X σ2) X σ1) X σ) (hm : behindInMarks op r = false := by with_unfolding_all rfl) :
    TE C (.Compare l [op] [r] p) Q X σ := by
  intro z₀
  rw [eval_Compare1, markedBehindIn_of_false hm]
  refine TT.bind (TT.mono (h z₀) ?_)
  rintro z a σ1 l1 ⟨va, ra, h1⟩
  refine TT.bind (TT.holding (TT.mono (h1 z) ?_))
  rintro z' b σ2 l2 ⟨vb, rb, h2⟩
  exact TT.at_ (TT.operate (h2 z' a b (ra.mono l2) rb))
theorem TB.cmp {l r : Expr} {op : CmpOp} {p : Pos} {Q : Bool → St → Prop} (h : TE C l (fun a σ1 => TE C r (fun b σ2 => Cmp C op a b (fun v σ3 => ∃ b, v = .bool b ∧ Q b σ3) X σ2) X σ1) X σ) (hm : behindInMarks op r = false := by with_unfolding_all rfl) :
    TB C (.Compare l [op] [r] p) Q X σ := by
  intro z₀
  rw [isTrue_Compare1, markedBehindIn_of_false hm]
  refine TT.bind (TT.mono (h z₀) ?_)
  rintro z a σ1 l1 ⟨va, ra, h1⟩
  refine TT.bind (TT.holding (TT.mono (h1 z) ?_))
  rintro z' b σ2 l2 ⟨vb, rb, h2⟩
  refine TT.at_ (TT.bind (TT.operate (TT.mono (h2 z' a b (ra.mono l2) rb) ?_)))
  rintro z'' c σ3 l3 ⟨vc, rc, b, rfl, h3⟩
  cases rc
  refine TT.holding (TT.eq (a := b) rfl fun _ _ => h3)
theorem TB.not {x : Expr} {p : Pos} {Q : Bool → St → Prop} (h : TB C x (fun b σ1 => Q (!b) σ1) X σ) : TB C (.UnaryOp .Not x p) Q X σ := by
  intro z₀
  rw [arm_isTrue_UnaryOp]
  refine TT.bind (TT.mono (h z₀) ?_)
  rintro z a σ1 l1 h1
  exact TT.pure fun _ _ => h1
theorem TB.val {e : Expr} {Q : Bool → St → Prop} (h : TE C e (fun v σ1 => Tru C v Q X σ1) X σ) (he : isTrue e C.env (eval e C.env) = (do let v ← eval e C.env; standAt e.pos; holding [v] (truthy v)) := by rfl) : TB C e Q X σ := by
  intro z₀
  rw [he]
  refine TT.bind (TT.mono (h z₀) ?_)
  rintro z a σ1 l1 ⟨va, ra, h1⟩
  exact TT.at_ (TT.holding (h1 z a ra))
def TBall (C : Cx) (op : BoolOp) (es : List Expr) (Q : Bool → St → Prop) (X : XP) (σ : St) : Prop := ∀ z₀, TT C z₀ (allTrue op es C.env) (fun _ b σ' => Q b σ') X σ
theorem TB.boolop {op : BoolOp} {es : List Expr} {p : Pos} {Q : Bool → St → Prop} (h : TBall C op es Q X σ) : TB C (.BoolOp op es p) Q X σ := by
  intro z₀; rw [arm_isTrue_BoolOp]; exact h z₀
theorem TBall.and_nil {Q : Bool → St → Prop} (h : Q true σ) : TBall C .And [] Q X σ := fun z₀ => TT.pure fun _ _ => h
theorem TBall.or_nil {Q : Bool → St → Prop} (h : Q false σ) : TBall C .Or [] Q X σ := fun z₀ => TT.pure fun _ _ => h
theorem TBall.and_cons {x : Expr} {rest : List Expr} {Q : Bool → St → Prop} (h : TB C x (fun b σ1 => if b then TBall C .And rest Q X σ1 else Q false σ1) X σ) : TBall C .And (x :: rest) Q X σ := by
  intro z₀
  show TT C z₀ (do match BoolOp.And, ← isTrue x C.env (eval x C.env) with | .And, false => pure false | .Or, true => pure true | _, _ => allTrue .And rest C.env) _ X σ
  refine TT.bind (TT.mono (h z₀) ?_)
  rintro z b σ1 l1 h1
  cases b
  · exact TT.pure fun _ _ => h1
  · exact h1 z
theorem TBall.or_cons {x : Expr} {rest : List Expr} {Q : Bool → St → Prop} (h : TB C x (fun b σ1 => if b then Q true σ1 else TBall C .Or rest Q X σ1) X σ) : TBall C .Or (x :: rest) Q X σ := by
  intro z₀
  show TT C z₀ (do match BoolOp.Or, ← isTrue x C.env (eval x C.env) with | .And, false => pure false | .Or, true => pure true | _, _ => allTrue .Or rest C.env) _ X σ
  refine TT.bind (TT.mono (h z₀) ?_)
  rintro z b σ1 l1 h1
  cases b
  · exact h1 z
  · exact TT.pure fun _ _ => h1
theorem TE.ifexp {t b o : Expr} {p : Pos} {Q : V → St → Prop} (h : TB C t (fun c σ1 => if c then TE C b Q X σ1 else TE C o Q X σ1) X σ) : TE C (.IfExp t b o p) Q X σ := by
  intro z₀
  rw [arm_eval_IfExp]
  refine TT.bind (TT.mono (h z₀) ?_)
  rintro z c σ1 l1 h1
  cases c
  · exact h1 z
  · exact h1 z
def TEb (C : Cx) (op : BoolOp) (es : List Expr) (Q : V → St → Prop) (X : XP) (σ : St) : Prop := ∀ pos z₀, TT C z₀ (boolOp pos op (evalEach es C.env)) (PVal Q) X σ
theorem TE.boolop {op : BoolOp} {es : List Expr} {p : Pos} {Q : V → St → Prop} (h : TEb C op es Q X σ) : TE C (.BoolOp op es p) Q X σ := fun z₀ => h p z₀
theorem TEb.one {op : BoolOp} {e : Expr} {Q : V → St → Prop} (h : TE C e Q X σ) : TEb C op [e] Q X σ := fun p z₀ => h z₀
theorem TEb.or_cons {e e' : Expr} {r : List Expr} {Q : V → St → Prop} (h : TE C e (fun v σ1 => Tru C v (fun b σ2 => if b then Q v σ2 else TEb C .Or (e' :: r) Q X σ2) X σ1) X σ) : TEb C .Or (e :: e' :: r) Q X σ := by
  intro p z₀
  show TT C z₀ (do
    let v ← eval e C.env
    standAt p
    let t ← holding [v] (truthy v)
    match BoolOp.Or, t with
    | .And, false | .Or, true => pure v
    | _, _ => boolOp p .Or (evalEach (e' :: r) C.env)) _ X σ
  refine TT.bind (TT.mono (h z₀) ?_)
  rintro z a σ1 l1 ⟨va, ra, h1⟩
  refine TT.at_ (TT.bind (TT.holding (TT.mono (h1 z a ra) ?_)))
  rintro z' b σ2 l2 h2
  cases b
  · exact h2 p z'
  · exact TT.pure fun z l => ⟨va, (ra.mono l2).mono l, h2⟩

/-! displays and arguments -/
def TArgs (C : Cx) (es : List Expr) (Q : List V → St → Prop) (X : XP) (σ : St) : Prop := ∀ pos z₀, TT C z₀ (spliced (backTo pos (starEach es C.env))) (fun z xs σ' => ∃ vs, RepL z vs xs ∧ Q vs σ') X σ
theorem TArgs.nil {Q : List V → St → Prop} (h : Q [] σ) : TArgs C [] Q X σ := fun pos z₀ => TT.pure fun z _ => ⟨[], .nil, h⟩
theorem TArgs.cons {e : Expr} {r : List Expr} {Q : List V → St → Prop} (h : TE C e (fun v σ1 => TArgs C r (fun vs σ2 => Q (v :: vs) σ2) X σ1) X σ)
    (he : starEach (e :: r) C.env = (false, eval e C.env) :: starEach r C.env := by rfl) : TArgs C (e :: r) Q X σ := by
  intro pos z₀
  rw [he]
  show TT C z₀ (do
    let v ← eval e C.env
    let here ← (pure [v] : Sem (List Value))
    return here ++ (← holding here (spliced (backTo pos (starEach r C.env))))) _ X σ
  refine TT.bind (TT.mono (h z₀) ?_)
  rintro z a σ1 l1 ⟨va, ra, h1⟩
  refine TT.bind (TT.pure fun z1 l2 => TT.bind (TT.holding (TT.mono (h1 pos z1) ?_)))
  rintro z2 xs σ2 l3 ⟨vs, rs, h2⟩
  exact TT.pure fun z3 l4 => ⟨va :: vs, .cons (((ra.mono l2).mono l3).mono l4) (rs.mono l4), h2⟩

theorem size_ok {n : Nat} (h : n ≤ 16777216) : n ≤ sizeLine := by rw [sizeLine_eq]; exact h

/-- a new tuple of known values -/
theorem TT.newTuple {vs : List V} {xs : List Value} {Q : V → St → Prop} (r : RepL z₀ vs xs) (hn : vs.length ≤ 16777216) (h : Q (.tup vs) σ) : TT C z₀ (PySem.newTuple xs) (PVal Q) X σ := by
  intro zs z s hz hR
  refine wpAny_newTuple ?_ (by rw [r.length]; exact size_ok hn)
  obtain ⟨R', l⟩ := hR.frozen { cls := .type "tuple", data := .seq xs.toArray } s.toks
  exact ⟨_, _, l, R', _, .tup put_self ((r.mono hz).mono l), h⟩
/-- a new list, frozen -/
theorem TT.newListF {vs : List V} {xs : List Value} {Q : V → St → Prop} (r : RepL z₀ vs xs) (hn : vs.length ≤ 16777216) (h : Q (.lst vs) σ) : TT C z₀ (PySem.newList xs) (PVal Q) X σ := by
  intro zs z s hz hR
  refine wpAny_newList ?_ (by rw [r.length]; exact size_ok hn)
  obtain ⟨R', l⟩ := hR.frozen { cls := .type "list", data := .seq xs.toArray } s.toks
  exact ⟨_, _, l, R', _, .lst put_self ((r.mono hz).mono l), h⟩
/-- a new list, live -/
theorem TT.newListM {vs : List V} {xs : List Value} {Q : V → St → Prop} (r : RepL z₀ vs xs) (hn : vs.length ≤ 16777216) (h : ∀ a, Q (.ref a) ⟨σ.loc, (a, .list vs) :: σ.H⟩) : TT C z₀ (PySem.newList xs) (PVal Q) X σ := by
  intro zs z s hz hR
  refine wpAny_newList ?_ (by rw [r.length]; exact size_ok hn)
  have R' := hR.push' { cls := .type "list", data := .seq xs.toArray }
  refine ⟨z, _, Z.le_refl _, R'.ledger (a := s.heap.objs.size) (o := .list vs) ⟨xs, 0, Heap.get?_push_size _ rfl, r.mono hz⟩ (hR.rh.fresh_z (Nat.le_refl _)) ?_, _, .ref _, h _⟩
  exact hR.apart_new (Nat.le_refl _)

theorem TE.tuple {es : List Expr} {k : Nat} {p : Pos} {Q : V → St → Prop} (h : TArgs C es (fun vs σ1 => vs.length ≤ 16777216 ∧ Q (.tup vs) σ1) X σ) : TE C (.Tuple es k p) Q X σ := by
  intro z₀
  rw [arm_eval_Tuple]
  refine TT.at_ (TT.bind (TT.mono (h p z₀) ?_))
  rintro z xs σ1 l ⟨vs, r, hn, hq⟩
  exact TT.newTuple r hn hq
theorem TE.listF {es : List Expr} {p : Pos} {Q : V → St → Prop} (h : TArgs C es (fun vs σ1 => vs.length ≤ 16777216 ∧ Q (.lst vs) σ1) X σ) : TE C (.List es p) Q X σ := by
  intro z₀
  rw [arm_eval_List]
  refine TT.at_ (TT.bind (TT.mono (h p z₀) ?_))
  rintro z xs σ1 l ⟨vs, r, hn, hq⟩
  exact TT.newListF r hn hq
theorem TE.listM {es : List Expr} {p : Pos} {Q : V → St → Prop} (h : TArgs C es (fun vs σ1 => vs.length ≤ 16777216 ∧ ∀ a, Q (.ref a) ⟨σ1.loc, (a, .list vs) :: σ1.H⟩) X σ) : TE C (.List es p) Q X σ := by
  intro z₀
  rw [arm_eval_List]
  refine TT.at_ (TT.bind (TT.mono (h p z₀) ?_))
  rintro z xs σ1 l ⟨vs, r, hn, hq⟩
  exact TT.newListM r hn hq
end

/-! storing -/
section
variable {C : Cx} {X : XP} {σ : St} {zs z z₀ : Z} {s : Shared}

theorem R.storeL (hR : R C zs σ z s) {x : Str} {v : V} {val : Value} {h' : Heap} {t : Nat} {m : Str → Option Value} (hm : ∀ y u, σ.loc.lookup y = some u → C.env.kindOf y = some .local → ∃ w, m y = some w ∧ Rep z u w) (hl : C.env.kindOf x = some .local) (r : Rep z v val)
    (hn : h'.Ns C.env.locals (fun y => if y = x then some val else m y)) (hs : Heap.SameBut C.env.locals s.heap h') :
    R C zs ⟨setL σ.loc x v, σ.H⟩ z { s with heap := h', toks := t } := by
  have ne : ∀ b o, z b = some o → b ≠ C.env.locals := fun b o e q => by rw [q, hR.locFree.1] at e; cases e
  have nes : ∀ b o, zs b = some o → b ≠ C.env.locals := fun b o e q => by rw [q, hR.locFree.2.1] at e; cases e
  refine ⟨⟨fun b o e => (hs.2 b (ne b o e)).trans (hR.rh.hz b o e), hR.rh.hbase, fun b o e => ?_, hR.rh.disj, fun p hp => ?_, hR.rh.nodup, hR.rh.gens, hR.rh.os⟩, ⟨_, hn, fun y u hy hk => ?_⟩, fun y u hy hk => ?_, fun p hp => ?_, hR.locFree, hR.fr⟩
  · obtain ⟨sl, q, w⟩ := hR.rh.hzs b o e
    exact ⟨sl, (hs.2 b (nes b o e)).trans q, w⟩
  · obtain ⟨a, b⟩ := hR.rh.hH p hp
    exact ⟨a.keep fun o ho => (hs.2 _ fun q => hR.locFree.2.2 (q ▸ List.mem_map_of_mem (f := (·.1)) hp)).trans ho, b⟩
  · rw [lookup_setL] at hy
    by_cases h : y = x
    · subst h; rw [if_pos rfl] at hy; cases hy; exact ⟨val, by simp, r⟩
    · rw [if_neg h] at hy
      obtain ⟨w, q, r'⟩ := hm y u hy hk
      exact ⟨w, by simp [h, q], r'⟩
  · rw [lookup_setL] at hy
    by_cases h : y = x
    · subst h; rw [hl] at hk; cases hk
    · rw [if_neg h] at hy
      obtain ⟨c, w, a, b, d⟩ := hR.cells y u hy hk
      exact ⟨c, w, a, b.sameBut hs (hR.cellsOk (y, c) (mem_of_lookup a)).2.2.2.1, d⟩
  · obtain ⟨⟨ov, a⟩, b1, b2, b3, b4⟩ := hR.cellsOk p hp
    exact ⟨⟨ov, a.sameBut hs b3⟩, b1, b2, b3, b4⟩

theorem R.storeC (hR : R C zs σ z s) {x : Str} {v : V} {val : Value} {c : Addr} {h' : Heap} (hl : C.env.kindOf x = some .cell) (hc : C.env.cells.lookup x = some c) (hro : x ∉ C.ro) (r : Rep z v val)
    (hn : h'.IsCell c (some val)) (hs : Heap.SameBut c s.heap h') : R C zs ⟨setL σ.loc x v, σ.H⟩ z { s with heap := h' } := by
  obtain ⟨⟨ov, hcell⟩, k1, k2, k3, k4⟩ := hR.cellsOk (x, c) (mem_of_lookup hc)
  have k2 := k2.resolve_right hro
  have ne : ∀ b o, z b = some o → b ≠ c := fun b o e q => by subst q; rw [k1] at e; cases e
  have nes : ∀ b o, zs b = some o → b ≠ c := fun b o e q => by subst q; rw [k2] at e; cases e
  refine ⟨⟨fun b o e => (hs.2 b (ne b o e)).trans (hR.rh.hz b o e), hR.rh.hbase, fun b o e => ?_, hR.rh.disj, fun p hp => ?_, hR.rh.nodup, hR.rh.gens, hR.rh.os⟩, ?_, fun y u hy hk => ?_, fun p hp => ?_, hR.locFree, hR.fr⟩
  · obtain ⟨sl, q, w⟩ := hR.rh.hzs b o e
    exact ⟨sl, (hs.2 b (nes b o e)).trans q, w⟩
  · obtain ⟨a, b⟩ := hR.rh.hH p hp
    exact ⟨a.keep fun o ho => (hs.2 _ fun q => k4 (q ▸ List.mem_map_of_mem (f := (·.1)) hp)).trans ho, b⟩
  · obtain ⟨m, n, hm⟩ := hR.ns
    refine ⟨m, n.sameBut hs (Ne.symm k3), fun y u hy hk => ?_⟩
    rw [lookup_setL] at hy
    by_cases h : y = x
    · subst h; rw [hl] at hk; cases hk
    · rw [if_neg h] at hy; exact hm y u hy hk
  · rw [lookup_setL] at hy
    by_cases h : y = x
    · subst h; rw [if_pos rfl] at hy; cases hy; exact ⟨c, val, hc, hn, r⟩
    · rw [if_neg h] at hy
      obtain ⟨c', w, a, b, d⟩ := hR.cells y u hy hk
      refine ⟨c', w, a, b.sameBut hs fun e => h ?_, d⟩
      subst e
      exact name_of_addr C.apart (mem_of_lookup a) (mem_of_lookup hc)
  · obtain ⟨⟨ov', a⟩, b1, b2, b3, b4⟩ := hR.cellsOk p hp
    by_cases e : p.2 = c
    · exact ⟨⟨_, by rw [e]; exact hn⟩, b1, b2, b3, b4⟩
    · exact ⟨⟨ov', a.sameBut hs e⟩, b1, b2, b3, b4⟩

/-- a name that can be stored: a local one, or a cell's -/
inductive Stores (C : Cx) (x : Str) : Prop
  | loc (h : C.env.kindOf x = some .local)
  | cell (c : Addr) (h : C.env.kindOf x = some .cell) (hc : C.env.cells.lookup x = some c) (hro : x ∉ C.ro)

theorem TT.store {x : Str} {v : V} {val : Value} {P : Z → Unit → St → Prop} (k : Stores C x) (r : Rep z₀ v val) (h : ∀ z, Z.le z₀ z → P z () ⟨setL σ.loc x v, σ.H⟩) : TT C z₀ (bindName C.env x val) P X σ := by
  intro zs z s hz hR
  refine wpAny_bindName ?_
  cases k with
  | loc hl =>
    obtain ⟨m, hn, hm⟩ := hR.ns
    refine wpAny_storeName_local hl hn (fun h' hn' hs' => ⟨z, _, Z.le_refl _, hR.storeL hm hl (r.mono hz) hn' hs', h z hz⟩) ?_
    rw [C.hk]; rfl
  | cell c hl hc hro =>
    obtain ⟨⟨ov, hcell⟩, _⟩ := hR.cellsOk (x, c) (mem_of_lookup hc)
    exact wpAny_storeName_cell C.hk hl hc hcell fun h' hn' hs' => ⟨z, _, Z.le_refl _, hR.storeC hl hc hro (r.mono hz) hn' hs', h z hz⟩

/-! statements -/
theorem TSs.nil {Q : Fl → St → Prop} (h : Q .next σ) : TSs C [] Q X σ := fun z₀ => TT.pure fun z _ => ⟨.next, .next, h⟩
theorem TSs.cons {st : Stmt} {r : List Stmt} {Q : Fl → St → Prop} (h : TS C st (fun f σ1 => match f with | .next => TSs C r Q X σ1 | f => Q f σ1) X σ) : TSs C (st :: r) Q X σ := by
  intro z₀
  rw [execs_cons]
  refine TT.bind (TT.mono (h z₀) ?_)
  rintro z f σ1 l ⟨fl, rf, h1⟩
  cases rf with
  | next => exact h1 z
  | brk => exact TT.pure fun z' l' => ⟨.brk, .brk, h1⟩
  | cont => exact TT.pure fun z' l' => ⟨.cont, .cont, h1⟩
  | ret rv => exact TT.pure fun z' l' => ⟨.ret _, .ret (rv.mono l'), h1⟩
theorem TS.cont {p : Pos} {Q : Fl → St → Prop} (h : Q .cont σ) : TS C (.Continue p) Q X σ := fun z₀ => by
  rw [arm_exec_Continue]; exact TT.at_ (TT.pure fun z _ => ⟨.cont, .cont, h⟩)
theorem TS.ret {e : Expr} {p : Pos} {Q : Fl → St → Prop} (h : TE C e (fun v σ1 => Q (.ret v) σ1) X σ) : TS C (.Return (some e) p) Q X σ := fun z₀ => by
  rw [exec_Return_some]
  refine TT.at_ (TT.bind (TT.mono (h z₀) ?_))
  rintro z x σ1 l ⟨v, r, h1⟩
  exact TT.pure fun z' l' => ⟨.ret v, .ret (r.mono l'), h1⟩
theorem TS.if_ {t : Expr} {b o : List Stmt} {p : Pos} {Q : Fl → St → Prop} (h : TB C t (fun c σ1 => if c then TSs C b Q X σ1 else TSs C o Q X σ1) X σ) : TS C (.If t b o p) Q X σ := fun z₀ => by
  rw [exec_If]
  refine TT.at_ (TT.bind (TT.mono (h z₀) ?_))
  rintro z c σ1 l h1
  cases c
  · exact h1 z
  · exact h1 z
theorem TS.assign {x : Str} {p p' : Pos} {e : Expr} {Q : Fl → St → Prop} (k : Stores C x) (h : TE C e (fun v σ1 => Q .next ⟨setL σ1.loc x v, σ1.H⟩) X σ)
    (hs : swapsWith e (some (.Name x p')) p.line C.env = pure false := by rfl) : TS C (.Assign [.Name x p'] e p) Q X σ := fun z₀ => by
  rw [exec_Assign_Name C.env x p' e p hs]
  refine TT.at_ (TT.bind (TT.mono (h z₀) ?_))
  rintro z val σ1 l ⟨v, r, h1⟩
  exact TT.at_ (TT.bind (TT.store k r fun z' l' => TT.pure fun z'' _ => ⟨.next, .next, h1⟩))
theorem TS.aug {x : Str} {p p' : Pos} {op : Operator} {e : Expr} {v : V} {Q : Fl → St → Prop} (k : Stores C x) (hv : σ.loc.lookup x = some v)
    (h : TE C e (fun w σ1 => Inp C op v w (fun u σ2 => Q .next ⟨setL σ2.loc x u, σ2.H⟩) X σ1) X σ) : TS C (.AugAssign (.Name x p') op e p) Q X σ := fun z₀ => by
  rw [exec_AugAssign_Name]
  refine TT.at_ (TT.bind (f := fun old => _) (m := loadName C.env x) ?_)
  intro zs z s hz hR
  have go : ∀ val, Rep z v val → ∃ z' σ', Z.le z z' ∧ R C zs σ' z' s ∧ (fun z a σ1 => TT C z (do
      let v ← holding [a] (eval e C.env)
      standAt p
      let new ← operate [a, v] (inplaceOp op a v)
      standAt p'
      bindName C.env x new
      pure Flow.next) (PFl Q) X σ1) z' val σ' := by
    intro val r
    refine ⟨z, σ, Z.le_refl _, hR, ?_⟩
    refine TT.bind (TT.holding (TT.mono (h z) ?_))
    rintro z1 w σ1 l1 ⟨vw, rw', h1⟩
    refine TT.at_ (TT.bind (TT.operate (TT.mono (h1 z1 val w (r.mono l1) rw') ?_)))
    rintro z2 u σ2 l2 ⟨vu, ru, h2⟩
    exact TT.at_ (TT.bind (TT.store k ru fun z' l' => TT.pure fun z'' _ => ⟨.next, .next, h2⟩))
  cases k with
  | loc hl =>
    obtain ⟨m, hn, hm⟩ := hR.ns
    obtain ⟨val, e', r⟩ := hm x v hv hl
    exact wpAny_loadName_local C.hk hl hn e' (go val r)
  | cell c hl hc hro =>
    obtain ⟨c', val, e', hc', r⟩ := hR.cells x v hv (by rw [hl]; rfl)
    exact wpAny_loadName_cell C.hk hl e' hc' (go val r)
theorem TSs.weaken {st : List Stmt} {Q : Fl → St → Prop} {σ' : St} (h1 : ∀ x v, σ'.loc.lookup x = some v → σ.loc.lookup x = some v) (h2 : σ'.H.Sublist σ.H) (h : TSs C st Q X σ') : TSs C st Q X σ := fun z₀ => (h z₀).weaken h1 h2
theorem TE.mono {e : Expr} {Q Q' : V → St → Prop} (h : TE C e Q X σ) (k : ∀ f σ, Q f σ → Q' f σ) : TE C e Q' X σ := fun z₀ => (h z₀).mono fun z f σ' _ ⟨fl, r, q⟩ => ⟨fl, r, k _ _ q⟩
theorem TB.mono {e : Expr} {Q Q' : Bool → St → Prop} (h : TB C e Q X σ) (k : ∀ f σ, Q f σ → Q' f σ) : TB C e Q' X σ := fun z₀ => (h z₀).mono fun z f σ' _ q => k _ _ q
end
end PL

end
section
open PySem PySem.Calls PyProof.Rows
set_option Elab.async false
set_option linter.unusedVariables false
set_option linter.unusedSimpArgs false
namespace PL

section
variable {C : Cx} {X : XP} {σ : St} {Q : V → St → Prop} {i j : Int} {b c : Bool}

theorem Bin.add_int (h : Q (.int (i + j)) σ) : Bin C .Add (.int i) (.int j) Q X σ := by
  rintro z₀ _ _ ⟨⟩ ⟨⟩ zs z s hz hR
  exact P.add_int (PVal.toks hR (.int _ _) h)
theorem Bin.fdiv_int (hj : j ≠ 0) (hp : Builtin.divisionGoesByPylong i j = false) (h : Q (.int (i.fdiv j)) σ) : Bin C .FloorDiv (.int i) (.int j) Q X σ := by
  rintro z₀ _ _ ⟨⟩ ⟨⟩ zs z s hz hR
  exact floordiv_int hj (PVal.toks hR (.int _ _) h) (.inl hp)
theorem Inp.fdiv_int (hj : j ≠ 0) (hp : Builtin.divisionGoesByPylong i j = false) (h : Q (.int (i.fdiv j)) σ) : Inp C .FloorDiv (.int i) (.int j) Q X σ := by
  rintro z₀ _ _ ⟨⟩ ⟨⟩ zs z s hz hR
  exact ifloordiv_int hj (PVal.toks hR (.int _ _) h) (.inl hp)
theorem Bin.mod_int (hj : j ≠ 0) (h : Q (.int (i.fmod j)) σ) : Bin C .Mod (.int i) (.int j) Q X σ := by
  rintro z₀ _ _ ⟨⟩ ⟨⟩ zs z s hz hR
  exact mod_int' hj (PVal.toks hR (.int _ _) h)
theorem Bin.pow_int (h0 : 0 ≤ j) (h1 : j ≤ 1000000) (ha : i.natAbs < 2 ^ 64) (h : Q (.int (i ^ j.toNat)) σ) : Bin C .Pow (.int i) (.int j) Q X σ := by
  rintro z₀ _ _ ⟨⟩ ⟨⟩ zs z s hz hR
  exact pow_int_small h0 h1 ha (PVal.toks hR (.int _ _) h)
theorem Inp.add_int (h : Q (.int (i + j)) σ) : Inp C .Add (.int i) (.int j) Q X σ := by
  rintro z₀ _ _ ⟨⟩ ⟨⟩ zs z s hz hR
  exact P.iadd_int (PVal.toks hR (.int _ _) h)
theorem Inp.sub_int (h : Q (.int (i - j)) σ) : Inp C .Sub (.int i) (.int j) Q X σ := by
  rintro z₀ _ _ ⟨⟩ ⟨⟩ zs z s hz hR
  exact P.isub_int (PVal.toks hR (.int _ _) h)
theorem Un.neg_int (h : Q (.int (-i)) σ) : Un C .USub (.int i) Q X σ := by
  rintro z₀ _ ⟨⟩ zs z s hz hR
  exact P.neg_int (PVal.toks hR (.int _ _) h)
theorem Cmp.eq_int (h : Q (.bool (i == j)) σ) : Cmp C .Eq (.int i) (.int j) Q X σ := by
  rintro z₀ _ _ ⟨⟩ ⟨⟩ zs z s hz hR
  exact P.eq_int (PVal.same hR (.bool _) h)
theorem Cmp.ne_int (h : Q (.bool (i != j)) σ) : Cmp C .NotEq (.int i) (.int j) Q X σ := by
  rintro z₀ _ _ ⟨⟩ ⟨⟩ zs z s hz hR
  exact P.ne_int (PVal.same hR (.bool _) h)
theorem Cmp.gt_int (h : Q (.bool (decide (i > j))) σ) : Cmp C .Gt (.int i) (.int j) Q X σ := by
  rintro z₀ _ _ ⟨⟩ ⟨⟩ zs z s hz hR
  exact P.gt_int (PVal.same hR (.bool _) h)
theorem Cmp.eq_bool (h : Q (.bool (b == c)) σ) : Cmp C .Eq (.bool b) (.bool c) Q X σ := by
  rintro z₀ _ _ ⟨⟩ ⟨⟩ zs z s hz hR
  exact PyProof.Rows.eq_bool (PVal.same hR (.bool _) h)
theorem Cmp.ne_bool (h : Q (.bool (b != c)) σ) : Cmp C .NotEq (.bool b) (.bool c) Q X σ := by
  rintro z₀ _ _ ⟨⟩ ⟨⟩ zs z s hz hR
  exact PyProof.Rows.ne_bool (PVal.same hR (.bool _) h)

theorem ofNat_inj {a b : Nat} (ha : a < 256) (hb : b < 256) (h : UInt8.ofNat a = UInt8.ofNat b) : a = b := by
  have := congrArg UInt8.toNat h
  simp only [UInt8.toNat_ofNat'] at this
  omega
theorem map_ofNat_inj : ∀ {l m : List Nat}, (∀ c ∈ l, c < 256) → (∀ c ∈ m, c < 256) → l.map UInt8.ofNat = m.map UInt8.ofNat → l = m
  | [], [], _, _, _ => rfl
  | [], _ :: _, _, _, h => by simp at h
  | _ :: _, [], _, _, h => by simp at h
  | a :: l, b :: m, hl, hm, h => by
    rw [List.map_cons, List.map_cons, List.cons.injEq] at h
    rw [ofNat_inj (hl a List.mem_cons_self) (hm b List.mem_cons_self) h.1, map_ofNat_inj (fun c hc => hl c (List.mem_cons_of_mem _ hc)) (fun c hc => hm c (List.mem_cons_of_mem _ hc)) h.2]
theorem beq_ofNat {l m : List Nat} (hl : ∀ c ∈ l, c < 256) (hm : ∀ c ∈ m, c < 256) : ((l.map UInt8.ofNat) == (m.map UInt8.ofNat)) = (l == m) := by
  rw [Bool.eq_iff_iff, beq_iff_eq, beq_iff_eq]
  exact ⟨map_ofNat_inj hl hm, fun e => by rw [e]⟩

variable {o : Bool} {l m : List Nat}
theorem Cmp.eq_txt (h : Q (.bool (l == m)) σ) : Cmp C .Eq (.txt o l) (.txt o m) Q X σ := by
  intro z₀ x y rx ry zs z s hz hR
  cases rx with
  | str _ t => cases ry with
    | str _ u => exact P.eq_str (PVal.same hR (.bool _) h)
  | bytes _ t hl => cases ry with
    | bytes _ u hm =>
      refine PySem.W.eq_bytes ?_
      rw [List.toList_toArray, List.toList_toArray, beq_ofNat hl hm]
      exact PVal.same hR (.bool _) h
theorem Cmp.ne_txt (h : Q (.bool (l != m)) σ) : Cmp C .NotEq (.txt o l) (.txt o m) Q X σ := by
  intro z₀ x y rx ry zs z s hz hR
  cases rx with
  | str _ t => cases ry with
    | str _ u => exact P.ne_str (PVal.same hR (.bool _) h)
  | bytes _ t hl => cases ry with
    | bytes _ u hm =>
      refine PySem.W.ne_bytes ?_
      rw [List.toList_toArray, List.toList_toArray, bne, beq_ofNat hl hm]
      exact PVal.same hR (.bool _) h

/-! truth -/
variable {QB : Bool → St → Prop}
theorem Tru.bool (h : QB b σ) : Tru C (.bool b) QB X σ := by
  rintro z₀ _ ⟨⟩ zs z s hz hR
  exact wpAny_truthy_bool ⟨z, σ, Z.le_refl _, hR, h⟩
theorem len_ne0 {α : Type} (l : List α) : ((l.length : Int) != 0) = !l.isEmpty := by cases l <;> simp [bne] <;> omega
theorem Tru.txt (hn : l.length ≤ 16777216) (h : QB (!l.isEmpty) σ) : Tru C (.txt o l) QB X σ := by
  intro z₀ x r zs z s hz hR
  rw [← len_ne0] at h
  cases r with
  | str _ t => exact P.truthy_str (x := ⟨l.toArray⟩) (by simp [Str.length]; omega) ⟨z, σ, Z.le_refl _, hR.toks _, by simpa [Str.length] using h⟩
  | bytes _ t hl => exact PySem.W.truthy_bytes (by simp; omega) ⟨z, σ, Z.le_refl _, hR.toks _, by simpa using h⟩

theorem rep_tupO {z : Z} {vs : List V} {x : Value} (r : Rep z (.tup vs) x) {zs : Z} {s : Shared} (hR : R C zs σ z s) : ∃ a items n, x = .ref a ∧ s.heap.get? a = some (tupO items n) ∧ RepL z vs items := by
  cases r with
  | tup e hr => exact ⟨_, _, _, rfl, hR.rh.hz _ _ e, hr⟩
/-- a list that can be read: frozen, or on the ledger -/
inductive IsL (σ : St) : V → List V → Prop
  | fz (vs : List V) : IsL σ (.lst vs) vs
  | mt {a : Addr} {vs : List V} (h : (a, AO.list vs) ∈ σ.H) : IsL σ (.ref a) vs
theorem IsL.obj {v : V} {vs : List V} (k : IsL σ v vs) {z₀ z zs : Z} {s : Shared} {x : Value} (r : Rep z₀ v x) (hz : Z.le z₀ z) (hR : R C zs σ z s) :
    ∃ a items n, x = .ref a ∧ s.heap.get? a = some (lstO items n) ∧ RepL z vs items := by
  cases k with
  | fz =>
    cases r with
    | lst e hr => exact ⟨_, _, _, rfl, hR.rh.hz _ _ (hz _ _ e), hr.mono hz⟩
  | mt hm =>
    cases r
    obtain ⟨⟨items, n, p, q⟩, _⟩ := hR.rh.hH _ hm
    exact ⟨_, items, n, rfl, p, q⟩
theorem IsL.at {v : V} {vs : List V} (k : IsL σ v vs) {z₀ z zs : Z} {s : Shared} {x : Value} (r : Rep z₀ v x) (hz : Z.le z₀ z) (hR : R C zs σ z s) :
    ∃ a items, x = .ref a ∧ s.heap.IsList a (items : List Value).toArray ∧ RepL z vs items :=
  let ⟨a, items, n, e, h, q⟩ := k.obj r hz hR; ⟨a, items, e, ⟨_, h, rfl, _, rfl⟩, q⟩

theorem Tru.list {v : V} {vs : List V} (k : IsL σ v vs) (hn : vs.length ≤ 16777216) (h : QB (!vs.isEmpty) σ) : Tru C v QB X σ := by
  intro z₀ x r zs z s hz hR
  obtain ⟨a, items, rfl, p, q⟩ := k.at r hz hR
  refine wpAny_truthy_list p (by rw [List.size_toArray, q.length]; omega) ⟨z, σ, Z.le_refl _, hR.toks _, ?_⟩
  have : items.toArray.isEmpty = vs.isEmpty := by
    rw [List.isEmpty_toArray]
    have := q.length
    cases items <;> cases vs <;> simp_all
  rw [this]; exact h
end
end PL

end
section
open PySem PySem.Calls PyProof.Rows
set_option Elab.async false
set_option linter.unusedVariables false
set_option linter.unusedSimpArgs false
namespace PL

/-! plain functions on texts -/
def sl {α : Type} (l : List α) (lo hi : Option Int) : List α := (l.drop (lo.elim 0 (clipAt l.length))).take (hi.elim l.length (clipAt l.length) - lo.elim 0 (clipAt l.length))

/-- the place behind the last `c`, 0 where there is none -/
def cut (c : Nat) : List Nat → Nat
  | [] => 0
  | x :: r => if cut c r ≠ 0 then cut c r + 1 else if x = c then 1 else 0
def splitS (c : Nat) : List Nat → List (List Nat)
  | [] => [[]]
  | x :: r => if x = c then [] :: splitS c r else match splitS c r with
    | [] => [[x]]
    | p :: ps => (x :: p) :: ps
def joinS (sep : List Nat) : List (List Nat) → List Nat
  | [] => []
  | [p] => p
  | p :: q :: r => p ++ sep ++ joinS sep (q :: r)
theorem cut_spec (c : Nat) : ∀ l : List Nat, (cut c l = 0 ∧ ∀ i : Nat, l[i]? ≠ some c) ∨ ∃ k : Nat, cut c l = k + 1 ∧ l[k]? = some c ∧ ∀ j, k < j → l[j]? ≠ some c
  | [] => .inl ⟨rfl, fun i => by simp⟩
  | x :: r => by
    unfold cut
    rcases cut_spec c r with ⟨h0, h⟩ | ⟨k, h0, h1, h2⟩
    · rw [if_neg (by simp [h0])]
      by_cases hx : x = c
      · rw [if_pos hx]
        refine .inr ⟨0, rfl, by simp [hx], fun j hj => ?_⟩
        cases j with
        | zero => omega
        | succ j => simpa using h j
      · rw [if_neg hx]
        refine .inl ⟨rfl, fun i => ?_⟩
        cases i with
        | zero => simpa using hx
        | succ j => simpa using h j
    · rw [if_pos (by omega), h0]
      refine .inr ⟨k + 1, rfl, by simpa using h1, fun j hj => ?_⟩
      cases j with
      | zero => omega
      | succ j => simpa using h2 j (by omega)
theorem splitS_ne (c : Nat) : ∀ l, splitS c l ≠ []
  | [] => by simp [splitS]
  | x :: r => by
    unfold splitS
    split
    · simp
    · split <;> simp
/-- the parts are told by what they are -/
theorem splitS_join (c : Nat) : ∀ (ps : List (List Nat)), ps ≠ [] → (∀ p ∈ ps, c ∉ p) → splitS c (joinS [c] ps) = ps
  | [], h, _ => absurd rfl h
  | [p], hn, h => by
    have hp := h p (by simp)
    show splitS c p = [p]
    clear h hn
    induction p with
    | nil => rfl
    | cons x r ih =>
      rw [List.mem_cons, not_or] at hp
      unfold splitS
      rw [if_neg (Ne.symm hp.1), ih hp.2]
  | p :: q :: r, hn, h => by
    have ih := splitS_join c (q :: r) (by simp) fun x hx => h x (List.mem_cons_of_mem _ hx)
    have hp := h p (by simp)
    show splitS c (p ++ [c] ++ joinS [c] (q :: r)) = _
    rw [List.append_assoc]
    clear h hn
    induction p with
    | nil => simp only [List.nil_append, List.cons_append]; unfold splitS; rw [if_pos rfl, ih]
    | cons x s ih2 =>
      rw [List.mem_cons, not_or] at hp
      rw [List.cons_append]
      unfold splitS
      rw [if_neg (Ne.symm hp.1), ih2 hp.2]

section
open Builtin Builtin.Str
theorem str_join (sep : List Nat) : ∀ ps : List (List Nat), Str.join (strOf sep) (ps.map strOf) = strOf (joinS sep ps)
  | [] => rfl
  | [p] => rfl
  | p :: q :: r => by
    have ih := str_join sep (q :: r)
    show strOf p ++ strOf sep ++ Str.join (strOf sep) ((q :: r).map strOf) = _
    rw [ih]
    apply Str.ext'
    simp [Str.cps_append, strOf, joinS]
theorem strOf_list (x : Str) : strOf x.cps.toList = x := by simp [strOf]
theorem str_split (l : List Nat) (c : Nat) : Txt.split ⟨l.toArray⟩ ⟨#[c]⟩ = (splitS c l).map strOf := by
  let ps := (Txt.split ⟨l.toArray⟩ ⟨#[c]⟩).map fun p => p.cps.toList
  have hps : ps.map strOf = Txt.split ⟨l.toArray⟩ ⟨#[c]⟩ := by
    simp only [ps, List.map_map]
    conv => rhs; rw [← List.map_id (Txt.split ⟨l.toArray⟩ ⟨#[c]⟩)]
    apply List.map_congr_left
    intro p _
    exact strOf_list p
  have hj := StrLaws.join_split ⟨l.toArray⟩ ⟨#[c]⟩
  rw [← hps] at hj
  have hj2 : joinS [c] ps = l := by
    have := str_join [c] ps
    rw [show strOf [c] = ⟨#[c]⟩ from rfl, hj] at this
    have := congrArg (fun s => s.cps.toList) this
    simpa [strOf] using this.symm
  have hfree : ∀ p ∈ ps, c ∉ p := by
    intro p hp
    obtain ⟨q, hq, rfl⟩ := List.mem_map.mp hp
    exact StrLaws.split_free ⟨l.toArray⟩ c q hq
  by_cases hne : ps = []
  · exfalso
    have h0 : Txt.split ⟨l.toArray⟩ ⟨#[c]⟩ = [] := by
      have := congrArg List.length hne
      simpa [ps] using this
    unfold Txt.split at h0
    split at h0
    · cases h0
    · split at h0
      · cases h0
      · rw [StrLaws.partsBetween_eq] at h0
        obtain ⟨p, r, e⟩ := StrLaws.partsFrom_ne ⟨l.toArray⟩ (⟨#[c]⟩ : Str).length 0 (occurrences ⟨l.toArray⟩ ⟨#[c]⟩ 0 (⟨l.toArray⟩ : Str).length ((⟨l.toArray⟩ : Str).length + 1))
        rw [e] at h0
        cases h0
  · rw [← hps, ← splitS_join c ps hne hfree, hj2]
end
end PL

end
section
open PySem PySem.Calls PyProof.Rows
set_option Elab.async false
set_option linter.unusedVariables false
set_option linter.unusedSimpArgs false
namespace PL

/-! subscripts -/
section
variable {C : Cx} {X : XP} {σ : St} {Q : V → St → Prop}

def Item (C : Cx) (o i : V) (Q : V → St → Prop) (X : XP) (σ : St) : Prop := ∀ value slice z₀ x y, Rep z₀ o x → Rep z₀ i y → TT C z₀ (subscriptTail value slice x y) (PVal Q) X σ
theorem subscripted_ops (slice : Expr) (x y : Value) : ∃ ops, subscripted slice false x y = operate ops (getItem x y) := by
  unfold subscripted
  split
  · exact ⟨_, rfl⟩
  · rename_i h; cases h
  · exact ⟨_, rfl⟩
theorem TE.sub {value slice : Expr} {pos : Pos} (h : TE C value (fun o σ1 => TE C slice (fun i σ2 => Item C o i Q X σ2) X σ1) X σ) : TE C (.Subscript value slice pos) Q X σ := by
  intro z₀
  have e : eval (.Subscript value slice pos) C.env = (do let o ← eval value C.env; let i ← holding [o] (eval slice C.env); standAt pos; subscriptTail value slice o i) := by rw [eval_Subscript]; rfl
  rw [e]
  refine TT.bind (TT.mono (h z₀) ?_)
  rintro z a σ1 l1 ⟨va, ra, h1⟩
  refine TT.bind (TT.holding (TT.mono (h1 z) ?_))
  rintro z' b σ2 l2 ⟨vb, rb, h2⟩
  exact TT.at_ (h2 value slice z' a b (ra.mono l2) rb)

theorem tail_of {M : Model} {A : Around} {E : Value → Shared → Prop} {s : Shared} {value slice : Expr} {o i : Value} {T id : String} {Q : Value → Shared → Prop} (hT : s.TypeIs o T)
    (hl : typeLookup (.type T) "__getitem__" = pure (some (.builtin id))) {prog : Program} {w : World} (hM : M = model prog w) (hg : wpAny M A (getItem o i) Q E s) : wpAny M A (subscriptTail value slice o i) Q E s := by
  obtain ⟨ops, hs⟩ := subscripted_ops slice o i
  subst hM
  exact tail_any hT hl hg hs

/-- which place an index tells -/
def At (k : Int) (n j : Nat) : Prop := (if k < 0 then k + n else k) = (j : Int) ∧ j < n

theorem Item.list {v : V} {vs : List V} {k : Int} {j : Nat} {u : V} (hl : IsL σ v vs) (hn : vs.length ≤ 16777216) (ha : At k vs.length j) (hu : vs[j]? = some u) (h : Q u σ) : Item C v (.int k) Q X σ := by
  rintro value slice z₀ x _ rx ⟨⟩ zs z s hz hR
  obtain ⟨a, items, rfl, p, q⟩ := hl.at rx hz hR
  obtain ⟨xv, hx, r⟩ := q.get hu
  obtain ⟨h1, h2⟩ := ha
  have hlen := q.length
  refine tail_of p.typeIs slot_list_getitem.lookup rfl ?_
  by_cases hk : k < 0
  · rw [if_pos hk] at h1
    refine wpAny_getItem_list_neg p hk (by rw [List.size_toArray, hlen]; omega) (by omega) (x := xv) ?_ (PVal.same hR r h)
    rw [List.size_toArray, hlen, h1]; simpa using hx
  · rw [if_neg hk] at h1
    refine wpAny_getItem_list p (by omega) (by omega) (x := xv) ?_ (PVal.same hR r h)
    rw [h1]; simpa using hx
/-! slices -/
def Slc (C : Cx) (o : V) (lo hi st : Option Int) (Q : V → St → Prop) (X : XP) (σ : St) : Prop :=
  ∀ value slice zs z s x a l u w, R C zs σ z s → Rep z o x → s.heap.IsSliceOf a l u w → IsPart l lo → IsPart u hi → IsPart w st →
    wpAny C.M C.A (subscriptTail value slice x (.ref a)) (fun val s' => ∃ z' σ', Z.le z z' ∧ R C zs σ' z' s' ∧ PVal Q z' val σ') (PX C zs z X) s
/-- a part of a slice -/
def TOpt (C : Cx) (e : Option Expr) (Q : Option Int → St → Prop) (X : XP) (σ : St) : Prop :=
  ∀ z₀, TT C z₀ (evalPart e C.env) (fun z x σ' => ∃ i, IsPart x i ∧ Q i σ') X σ
theorem TOpt.none {Q : Option Int → St → Prop} (h : Q none σ) : TOpt C none Q X σ := fun z₀ => TT.eq (evalPart_none _) fun z _ => ⟨_, .none, h⟩
theorem TOpt.some {e : Expr} {Q : Option Int → St → Prop} (h : TE C e (fun v σ' => ∃ i, v = .int i ∧ Q (some i) σ') X σ) : TOpt C (some e) Q X σ := by
  intro z₀
  show TT C z₀ (eval e C.env) _ X σ
  refine TT.mono (h z₀) ?_
  rintro z x σ' l ⟨v, r, i, rfl, q⟩
  cases r with
  | int _ t => exact ⟨_, .int i t, q⟩
theorem TE.subsl {value : Expr} {lo hi st : Option Expr} {p pos : Pos}
    (h : TE C value (fun o σ1 => TOpt C lo (fun a σ2 => TOpt C hi (fun b σ3 => TOpt C st (fun c σ4 => Slc C o a b c Q X σ4) X σ3) X σ2) X σ1) X σ) : TE C (.Subscript value (.Slice lo hi st p) pos) Q X σ := by
  intro z₀ zs z s hz hR
  refine Subscript_ (wpAny_mono (h z₀ zs z s hz hR) ?_ fun _ _ x => x)
  rintro o s1 ⟨z1, σ1, l1, R1, v, ro, h1⟩
  refine wpAny_Slice (wpAny_mono (h1 z1 zs z1 s1 (Z.le_refl _) R1) ?_ fun _ _ x => PX.le l1 x)
  rintro lv s2 ⟨z2, σ2, l2, R2, a, pa, h2⟩
  refine wpAny_mono (h2 z2 zs z2 s2 (Z.le_refl _) R2) ?_ fun _ _ x => PX.le (Z.le_trans l1 l2) x
  rintro uv s3 ⟨z3, σ3, l3, R3, b, pb, h3⟩
  refine wpAny_mono (h3 z3 zs z3 s3 (Z.le_refl _) R3) ?_ fun _ _ x => PX.le (Z.le_trans (Z.le_trans l1 l2) l3) x
  rintro wv s4 ⟨z4, σ4, l4, R4, c, pc, h4⟩
  have ll := Z.le_trans (Z.le_trans (Z.le_trans l1 l2) l3) l4
  refine wpAny_mono (h4 value (.Slice lo hi st p) zs z4 _ o s4.heap.objs.size lv uv wv (R4.push' _) (ro.mono (Z.le_trans (Z.le_trans l2 l3) l4)) (Heap.IsSliceOf.new ..) pa pb pc) ?_ fun _ _ x => PX.le ll x
  rintro r s5 ⟨z5, σ5, l5, R5, q⟩
  exact ⟨z5, σ5, Z.le_trans ll l5, R5, q⟩

/-- the places of a slice with a step -/
def pick {α : Type} (l : List α) (lo hi st : Option Int) : List α :=
  (sliceRange (sliceBounds lo hi st l.length).1 (sliceBounds lo hi st l.length).2.1 (sliceBounds lo hi st l.length).2.2).filterMap (l[·]?)
theorem pick_plain {α : Type} (l : List α) (lo hi : Option Int) : pick l lo hi none = sl l lo hi := by
  unfold pick sl
  rw [sliceBounds_plain]
  have := sliceRange_one (lo.elim 0 (clipAt l.length)) (hi.elim l.length (clipAt l.length))
  simp only [this]
  have h := pick_run l.toArray (lo.elim 0 (clipAt l.length)) (hi.elim l.length (clipAt l.length) - lo.elim 0 (clipAt l.length))
  simpa using h
theorem RepL.pick {z : Z} {vs : List V} {xs : List Value} (r : RepL z vs xs) : ∀ idx : List Nat, RepL z (idx.filterMap (vs[·]?)) (idx.filterMap (xs[·]?))
  | [] => .nil
  | i :: idx => by
    have ih := r.pick idx
    cases h : vs[i]? with
    | none =>
      have hx : xs[i]? = none := by
        rw [List.getElem?_eq_none_iff] at h ⊢
        rw [r.length]; exact h
      simpa [List.filterMap_cons, h, hx] using ih
    | some v =>
      obtain ⟨x, hx, rx⟩ := r.get h
      simpa [List.filterMap_cons, h, hx] using RepL.cons rx ih
theorem Slc.list {v : V} {vs : List V} {lo hi st : Option Int} (hl : IsL σ v vs) (hn : vs.length ≤ 16777216) (h0 : st ≠ some 0) (h : Q (.lst (pick vs lo hi st)) σ) : Slc C v lo hi st Q X σ := by
  intro value slice zs z s x a l u w hR rx hs pl pu pw
  obtain ⟨b, items, rfl, p, q⟩ := hl.at rx (Z.le_refl _) hR
  refine tail_of p.typeIs slot_list_getitem.lookup rfl ?_
  have hlen := q.length
  refine wpAny_getItem_list_slice p hs pl pu pw h0 ?_ (by rw [List.size_toArray, hlen]; exact size_ok hn)
  obtain ⟨R', le⟩ := hR.frozen { cls := .type "list", data := .seq (slicePick items.toArray lo hi st) } s.toks
  have hq := q.pick (sliceRange (sliceBounds lo hi st vs.length).1 (sliceBounds lo hi st vs.length).2.1 (sliceBounds lo hi st vs.length).2.2)
  refine ⟨_, _, le, R', _, .lst (n := 0) (items := (sliceRange (sliceBounds lo hi st vs.length).1 (sliceBounds lo hi st vs.length).2.1 (sliceBounds lo hi st vs.length).2.2).filterMap (items[·]?)) ?_ (hq.mono le), h⟩
  rw [put_self]
  unfold slicePick
  rw [List.size_toArray, hlen]
  simp

theorem part_of {x : Value} {i : Option Int} (p : IsPart x i) : ∃ k : Option (Int × Tok), x = partValue k ∧ k.map (·.1) = i := by
  cases p with
  | none => exact ⟨none, rfl, rfl⟩
  | int i t => exact ⟨some (i, t), rfl, rfl⟩
theorem strIdx (lo hi : Option Int) (n : Nat) : Builtin.Str.strSliceIndices lo hi 1 n = sliceRange (sliceBounds lo hi none n).1 (sliceBounds lo hi none n).2.1 (sliceBounds lo hi none n).2.2 := by
  unfold Builtin.Str.strSliceIndices sliceBounds
  rfl
theorem sl_length_le {α : Type} (l : List α) (lo hi : Option Int) : (sl l lo hi).length ≤ l.length := by
  unfold sl; simp; omega
theorem sl_whole {α : Type} {l : List α} {lo hi : Option Int} (h : (sl l lo hi).length = l.length) : sl l lo hi = l := by
  unfold sl at h ⊢
  rw [List.length_take, List.length_drop] at h
  by_cases e : lo.elim 0 (clipAt l.length) = 0
  · rw [e] at h ⊢
    rw [List.drop_zero, List.take_of_length_le (by omega)]
  · have : l.length = 0 := by omega
    have : l = [] := List.length_eq_zero_iff.mp this
    subst this; simp
theorem Slc.str {l : List Nat} {lo hi : Option Int} (hn : l.length ≤ 16777216) (h : Q (.txt false (sl l lo hi)) σ) : Slc C (.txt false l) lo hi none Q X σ := by
  intro value slice zs z s x a lv uv wv hR rx hs pl pu pw
  cases rx with
  | str _ t =>
    obtain ⟨kl, rfl, el⟩ := part_of pl
    obtain ⟨ku, rfl, eu⟩ := part_of pu
    cases pw
    refine tail_of (typeIs_str _ _ _) PySem.F.slot_str_getitem.lookup rfl ?_
    refine wpAny_getItem_str_slice (l := kl) (u := ku) (st := none) hs rfl ?_
    unfold sliceMade slicePicked
    rw [el, eu]
    have e : (Builtin.Str.strSliceIndices lo hi 1 (⟨l.toArray⟩ : Str).length).filterMap ((⟨l.toArray⟩ : Str).cps[·]?) = sl l lo hi := by
      rw [strIdx, ← pick_plain]
      unfold pick
      simp [Str.length]
    split
    · rename_i hc
      have hlen : (sl l lo hi).length = l.length := by
        rw [← e]
        simp only [Option.map_none, Option.getD_none, Bool.and_eq_true, beq_iff_eq] at hc
        have h2 := hc.2
        refine Nat.le_antisymm (Nat.le_trans (List.length_filterMap_le _ _) (by rw [h2]; simp [Str.length])) ?_
        rw [e]
        -- every place is met
        have h3 : (Builtin.Str.strSliceIndices lo hi 1 (⟨l.toArray⟩ : Str).length).length = (hi.elim l.length (clipAt l.length) - lo.elim 0 (clipAt l.length)) := by
          rw [strIdx, sliceBounds_plain]
          have := sliceRange_one (lo.elim 0 (clipAt l.length)) (hi.elim l.length (clipAt l.length))
          show (sliceRange ((lo.elim 0 (clipAt l.length) : Nat) : Int) ((hi.elim l.length (clipAt l.length) : Nat) : Int) 1).length = _
          rw [this]; simp
        rw [h3] at h2
        unfold sl
        rw [List.length_take, List.length_drop]
        have : (⟨l.toArray⟩ : Str).length = l.length := by simp [Str.length]
        have hcl : hi.elim l.length (clipAt l.length) ≤ l.length := by
          cases hi with
          | none => exact Nat.le_refl _
          | some i =>
            have := clipAt_cast l.length i
            show clipAt l.length i ≤ l.length
            omega
        omega
      rw [sl_whole hlen] at h
      exact PVal.same hR (.str _ t) h
    · refine ⟨?_, ?_⟩
      · show (List.filterMap _ _).toArray.size ≤ sizeLine
        rw [List.size_toArray]
        have := sl_length_le l lo hi
        rw [← e] at this
        exact size_ok (Nat.le_trans this hn)
      · have e2 := e
        simp only [Option.map_none, Option.getD_none] at e2 ⊢
        rw [e2]
        exact PVal.toks hR (.str _ _) h
theorem Slc.bytes {l : List Nat} {lo hi : Option Int} (hn : l.length ≤ 16777216) (h : Q (.txt true (sl l lo hi)) σ) : Slc C (.txt true l) lo hi none Q X σ := by
  intro value slice zs z s x a lv uv wv hR rx hs pl pu pw
  cases rx with
  | bytes _ t hl =>
    cases pw
    refine tail_of (PySem.W.typeIs_bytes _ _ _) PySem.W.FB.slot_bytes_getitem.lookup rfl ?_
    have e : PySem.W.KBy.picked (l.map UInt8.ofNat).toArray lo hi = ((sl l lo hi).map UInt8.ofNat).toArray := by
      rw [PySem.W.KBc.picked_eq]
      unfold sl
      simp [List.map_take, List.map_drop]
    refine getItem_meets (PySem.W.typeIs_bytes _ _ _) (by decide) PySem.W.FB.slot_bytes_getitem PySem.W.FB.entry_bytes_getitem (PySem.W.FB.args_bytes_getitem_2 _ _) (PySem.W.KBc.meets_slice2 _ t a pl pu) ⟨hs, ?_, ?_⟩
    · rw [e, List.size_toArray, List.length_map]
      exact size_ok (Nat.le_trans (sl_length_le l lo hi) hn)
    · intro t' k
      rw [e]
      refine PVal.toks hR (.bytes _ _ fun c hc => hl c ?_) h
      unfold sl at hc
      exact List.mem_of_mem_drop (List.mem_of_mem_take hc)
theorem Slc.txt {o : Bool} {l : List Nat} {lo hi : Option Int} (hn : l.length ≤ 16777216) (h : Q (.txt o (sl l lo hi)) σ) : Slc C (.txt o l) lo hi none Q X σ := by
  cases o
  · exact Slc.str hn h
  · exact Slc.bytes hn h
end
end PL

end
section
open PySem PySem.Calls PyProof.Rows
set_option Elab.async false
set_option linter.unusedVariables false
set_option linter.unusedSimpArgs false
namespace PL

/-! calls -/
section
variable {C : Cx} {X : XP} {σ : St} {Q : V → St → Prop}

inductive Kept (g : Gd) : Value → Prop
  | bi (id : String) : Kept g (.builtin id)
  | ty (n : String) : Kept g (.type n)
  | fn {a : Addr} {o : Obj} {fd : FuncData} (h : g.base.get? a = some o) (hd : o.data = .func fd) : Kept g (.ref a)

def CallV (C : Cx) (f : Value) (vs : List V) (Q : V → St → Prop) (X : XP) (σ : St) : Prop := ∀ z₀ xs, RepL z₀ vs xs → TT C z₀ (call f xs []) (PVal Q) X σ

theorem evalArgs_of {M : Model} {A : Around} {E : Value → Shared → Prop} {s : Shared} {f : Value} {args : List (Bool × Sem Value)} {Q : Args → Shared → Prop} (hp : args.any (·.1) = false)
    (h : wpAny M A (spliced args) (fun vs s' => Q ⟨vs, []⟩ s') E s) : wpAny M A (evalArgs f true args []) Q E s := by
  have e : evalArgs f true args [] = (do
      let pos ← spliced args
      holding pos (do
        let kw := (([] : List (Option Str × Sem Value)).filterMap (·.1)).zip (← evalAll [])
        return ⟨← pure pos, kw⟩)) := by
    unfold evalArgs
    cases args with
    | nil => simp
    | cons a r =>
      obtain ⟨b, x⟩ := a
      cases b with
      | true => simp at hp
      | false => simp
  rw [e]
  refine wpAny_bind (wpAny_mono h (fun vs s' h' => ?_) fun _ _ x => x)
  exact wpAny_holding (wpAny_bind (wpAny_pure (wpAny_bind (wpAny_pure (wpAny_pure h')))))

theorem TT.callWith {z₀ : Z} {pos : Pos} {f : Value} {first : List Value} {args : List (Bool × Sem Value)} {P : Z → Value → St → Prop} (kf : Kept C.g f) (hp : args.any (·.1) = false)
    (h : TT C z₀ (spliced args) (fun z xs σ1 => TT C z (call f (first ++ xs) []) P X σ1) X σ) : TT C z₀ (callWith pos f first args []) P X σ := by
  intro zs z s hz hR
  have go : wpAny C.M C.A (spliced args) (fun xs s' => wpAny C.M C.A (call f (first ++ xs) []) (fun a s'' => ∃ z' σ', Z.le z z' ∧ R C zs σ' z' s'' ∧ P z' a σ') (PX C zs z X) s' ∧ ∀ b o, C.g.base.get? b = some o → s'.heap.get? b = some o) (PX C zs z X) s := by
    refine wpAny_mono (h zs z s hz hR) ?_ fun _ _ x => x
    rintro xs s1 ⟨z1, σ1, l1, R1, k⟩
    refine ⟨wpAny_mono (k zs z1 s1 (Z.le_refl _) R1) ?_ fun _ _ x => PX.le l1 x, R1.rh.base⟩
    rintro a s2 ⟨z2, σ2, l2, R2, q⟩
    exact ⟨z2, σ2, Z.le_trans l1 l2, R2, q⟩
  cases kf with
  | bi id => exact callWith_builtin hp (evalArgs_of hp (wpAny_mono go (fun _ _ x => x.1) fun _ _ x => x))
  | ty n => exact PyProof.Rows.callWith_type hp (evalArgs_of hp (wpAny_mono go (fun _ _ x => x.1) fun _ _ x => x))
  | fn hb hd => exact callWith_function (evalArgs_of hp (wpAny_mono go (fun _ _ x => ⟨⟨x.2 _ _ hb, hd⟩, x.1⟩) fun _ _ x => x))

theorem TE.call {func : Expr} {args : List Expr} {pos : Pos} (h : TE C func (fun fv σ1 => ∃ f, fv = .con f ∧ Kept C.g f ∧ TArgs C args (fun vs σ2 => CallV C f vs Q X σ2) X σ1) X σ)
    (hp : (backTo pos (starEach args C.env)).any (·.1) = false := by rfl)
    (he : eval (.Call func args [] pos) C.env = (do callWith pos (← eval func C.env) [] (backTo pos (starEach args C.env)) []) := by rfl) : TE C (.Call func args [] pos) Q X σ := by
  intro z₀
  rw [he]
  refine TT.bind (TT.mono (h z₀) ?_)
  rintro z fx σ1 l1 ⟨_, rf, f, rfl, kf, h1⟩
  cases rf
  refine TT.callWith kf hp (TT.mono (h1 pos z) ?_)
  rintro z2 xs σ2 l2 ⟨vs, rs, h2⟩
  exact h2 z2 xs rs

/-- a built-in method of a value -/
def Meth (C : Cx) (σ : St) (ov : V) (name : Str) (id : String) : Prop :=
  ∀ zs z s x pl (Q' : Value × List Value → Shared → Prop) E, R C zs σ z s → Rep z ov x → Q' (.builtin id, [x]) s → wpAny C.M C.A (getMethod x name pl) Q' E s
theorem TE.meth {o : Expr} {name : Str} {id : String} {apos pos : Pos} {args : List Expr} (h : TE C o (fun ov σ1 => Meth C σ1 ov name id ∧ TArgs C args (fun vs σ2 => CallV C (.builtin id) (ov :: vs) Q X σ2) X σ1) X σ)
    (hp : (backTo pos (starEach args C.env)).any (·.1) = false := by rfl) (hb : attributeBase o name C.env (eval o C.env) = eval o C.env := by rfl)
    (hf : methodCallForm (args.length + 0) (backTo pos (starEach args C.env)) [] = true := by rfl) (hl : (apos.endLine == pos.line) = true := by rfl) : TE C (.Call (.Attribute o name apos) args [] pos) Q X σ := by
  intro z₀
  have e : eval (.Call (.Attribute o name apos) args [] pos) C.env = (do
    let ov ← eval o C.env
    standAt apos.atName
    let (f, first) ← holding [ov] (getMethod ov name (do return (← importBound o C.env).getD true))
    callWith pos f first (backTo pos (starEach args C.env)) []) := by
    have e0 : eval (.Call (.Attribute o name apos) args [] pos) C.env = (do
        let ov ← attributeBase o name C.env (eval o C.env)
        standAt apos.atName
        methodCall o name apos pos C.env ov (args.length + 0) (backTo pos (starEach args C.env)) []) := rfl
    rw [e0, hb]
    unfold methodCall methodCallPos calleeOf
    rw [hf]
    simp only [hl, if_true, Bool.not_true, Bool.false_or]
    rfl
  rw [e]
  refine TT.bind (TT.mono (h z₀) ?_)
  rintro z x σ1 l1 ⟨ov, rv, hm, h1⟩
  refine TT.at_ ?_
  intro zs z' s hz' hR
  refine wpAny_bind (wpAny_holding (hm zs z' s x _ _ _ hR (rv.mono hz') ?_))
  refine TT.callWith (C := C) (z₀ := z') (σ := σ1) (X := X) (.bi id) hp (TT.mono (h1 pos z') ?_) zs z' s (Z.le_refl _) hR
  rintro z2 xs σ2 l2 ⟨vs, rs, h2⟩
  exact h2 z2 _ (.cons ((rv.mono hz').mono l2) rs)
theorem CallV.toks {f : Value} {vs : List V} (h : ∀ z₀ zs z s xs, Z.le z₀ z → R C zs σ z s → RepL z vs xs → wpAny C.M C.A (call f xs []) (fun a s' => ∃ z' σ', Z.le z z' ∧ R C zs σ' z' s' ∧ PVal Q z' a σ') (PX C zs z X) s) : CallV C f vs Q X σ :=
  fun z₀ xs r zs z s hz hR => h z₀ zs z s xs hz hR (r.mono hz)
end

/-! facts of the methods of bytes -/
namespace BF
open PySem.W.FB
theorem slot_split : Slot "bytes" "split" "bytes.split" :=
  .of (owner := "bytes") (n := "split") (by rw [typeLookup_type, builtinLookup_eq_fast]; kernel_rfl) (by decide +kernel) (by decide +kernel) (by decide +kernel)
    (by first | exact .inl (by decide +kernel) | exact .inr (by decide +kernel)) (by rw [isSubtype_type]; kernel_rfl)
theorem type_split : typeOf (.builtin "bytes.split") = pure (.type "method_descriptor") := by show builtinType _ = _; rw [builtinType_eq_fast]; kernel_rfl
theorem entry_split : entryFor table "bytes.split" = some Builtin.«bytes.split» := entryFor_of_tree (by kernel_rfl)
theorem args_split (a b : Value) : argsOk "bytes.split" ⟨[a, b], []⟩ := by
  unfold argsOk; rw [signature?_of (id := "bytes.split") (n := ['t', 'i', 'l', 'p', 's']) (o := ['s', 'e', 't', 'y', 'b']) (by kernel_rfl) owner_bytes]; kernel_rfl
theorem slot_join : Slot "bytes" "join" "bytes.join" :=
  .of (owner := "bytes") (n := "join") (by rw [typeLookup_type, builtinLookup_eq_fast]; kernel_rfl) (by decide +kernel) (by decide +kernel) (by decide +kernel)
    (by first | exact .inl (by decide +kernel) | exact .inr (by decide +kernel)) (by rw [isSubtype_type]; kernel_rfl)
theorem type_join : typeOf (.builtin "bytes.join") = pure (.type "method_descriptor") := by show builtinType _ = _; rw [builtinType_eq_fast]; kernel_rfl
theorem entry_join : entryFor table "bytes.join" = some Builtin.«bytes.join» := entryFor_of_tree (by kernel_rfl)
theorem args_join (a b : Value) : argsOk "bytes.join" ⟨[a, b], []⟩ := by
  unfold argsOk; rw [signature?_of (id := "bytes.join") (n := ['n', 'i', 'o', 'j']) (o := ['s', 'e', 't', 'y', 'b']) (by kernel_rfl) owner_bytes]; kernel_rfl
end BF

section
variable {C : Cx} {σ : St}
theorem Meth.str {l : List Nat} {name : Str} {id : String} (slot : Slot "str" name id) (ty : typeOf (.builtin id) = pure (.type "method_descriptor")) : Meth C σ (.txt false l) name id := by
  intro zs z s x pl Q' E hR r h
  cases r with
  | str _ t => with_reducible exact GM.of (.str _ t) (typeIs_str _ _ _) slot ty GM.noRef h
theorem Meth.bytes {l : List Nat} {name : Str} {id : String} (slot : Slot "bytes" name id) (ty : typeOf (.builtin id) = pure (.type "method_descriptor")) : Meth C σ (.txt true l) name id := by
  intro zs z s x pl Q' E hR r h
  cases r with
  | bytes _ t hl => with_reducible exact PySem.W.KBd.method_of (.bytes _ t) (PySem.W.typeIs_bytes _ _ _) slot ty PySem.W.KBd.noRef h
theorem Meth.list {v : V} {vs : List V} (k : IsL σ v vs) {name : Str} {id : String} (slot : Slot "list" name id) (ty : typeOf (.builtin id) = pure (.type "method_descriptor")) : Meth C σ v name id := by
  intro zs z s x pl Q' E hR r h
  obtain ⟨a, items, n, rfl, p, q⟩ := k.obj r (Z.le_refl _) hR
  exact getMethod_builtin (T := "list") ⟨_, p, rfl⟩ PySem.F.plainAttrs_list slot ty (fun b e => by cases e; exact ⟨_, p, rfl⟩) h
end
end PL

end
section
open PySem PySem.Calls PyProof.Rows
set_option Elab.async false
set_option linter.unusedVariables false
set_option linter.unusedSimpArgs false
namespace PL

/-! bytes: what the model's searches give on a single sign -/
section
open Builtin
theorem extract_one {b : List UInt8} {i : Nat} {c : UInt8} : (b.toArray.extract i (i + (#[c] : Array UInt8).size) == #[c]) = true ↔ b[i]? = some c := by
  have e : b.toArray.extract i (i + (#[c] : Array UInt8).size) = ((b.drop i).take 1).toArray := by
    simp [List.extract_toArray, List.extract_eq_take_drop]
  rw [e]
  constructor
  · intro h
    have h2 := eq_of_beq h
    have h3 : (b.drop i).take 1 = [c] := by simpa using congrArg Array.toList h2
    cases hd : b.drop i with
    | nil => rw [hd] at h3; simp at h3
    | cons x r =>
      rw [hd] at h3
      simp at h3
      have : b[i]? = (b.drop i)[0]? := by simp
      rw [this, hd]; simp [h3]
  · intro h
    have : (b.drop i).take 1 = [c] := by
      have h2 : (b.drop i)[0]? = some c := by simpa using h
      cases hd : b.drop i with
      | nil => rw [hd] at h2; simp at h2
      | cons x r => rw [hd] at h2; simp at h2; simp [h2]
    rw [this]; simp
theorem bytesLike_eq {id : String} {b : Array UInt8} {t : Tok} : Bytes.bytesLike id (.bytes b t) = pure b := by
  unfold Bytes.bytesLike
  rw [PySem.W.KBy.buffer_eq]
  rfl
section
variable {prog : Program} {w : World} {A : Around} {E : Value → Shared → Prop} {s : Shared} {Q : Value → Shared → Prop} {l : List Nat} {c : Nat} {t u : Tok}
end
end
end PL

end
section
open PySem PySem.Calls PyProof.Rows
set_option Elab.async false
set_option linter.unusedVariables false
set_option linter.unusedSimpArgs false
namespace PL
section
open Builtin

/-- the places of a sign -/
def occS (c : UInt8) : List UInt8 → List Nat
  | [] => []
  | x :: r => if x = c then 0 :: (occS c r).map (· + 1) else (occS c r).map (· + 1)
def betw (b : List UInt8) : Nat → List Nat → List (List UInt8)
  | last, [] => [b.drop last]
  | last, p :: r => ((b.drop last).take (p - last)) :: betw b (p + 1) r
def splitB (c : UInt8) : List UInt8 → List (List UInt8)
  | [] => [[]]
  | x :: r => if x = c then [] :: splitB c r else match splitB c r with
    | [] => [[x]]
    | p :: ps => (x :: p) :: ps
theorem betw_shift (x : UInt8) (r : List UInt8) : ∀ (ps : List Nat) (k : Nat), betw (x :: r) (k + 1) (ps.map (· + 1)) = betw r k ps
  | [], k => rfl
  | p :: ps, k => by
    simp only [List.map_cons, betw, List.drop_succ_cons, Nat.add_sub_add_right]
    rw [betw_shift x r ps (p + 1)]
theorem betw_head (x : UInt8) (r : List UInt8) : ∀ (ps : List Nat), betw (x :: r) 0 (ps.map (· + 1)) = match betw r 0 ps with | [] => [[x]] | p :: q => (x :: p) :: q
  | [] => by simp [betw]
  | p :: ps => by
    simp only [List.map_cons, betw, List.drop_zero, Nat.sub_zero, List.take_succ_cons]
    rw [betw_shift x r ps (p + 1)]
theorem betw_split (c : UInt8) : ∀ b : List UInt8, betw b 0 (occS c b) = splitB c b
  | [] => rfl
  | x :: r => by
    have ih := betw_split c r
    unfold occS splitB
    by_cases h : x = c
    · rw [if_pos h, if_pos h]
      simp only [betw, List.drop_zero, Nat.sub_self, List.take_zero]
      rw [betw_shift, ih]
    · rw [if_neg h, if_neg h, betw_head, ih]
theorem occS_eq (c : UInt8) : ∀ b : List UInt8, occS c b = (List.range b.length).filter fun i => b[i]? == some c
  | [] => rfl
  | x :: r => by
    have ih := occS_eq c r
    unfold occS
    rw [List.length_cons, List.range_succ_eq_map, List.filter_cons, ih, List.filter_map]
    have e : ((fun i => (x :: r)[i]? == some c) ∘ Nat.succ) = fun i => r[i]? == some c := by funext i; simp
    have e2 : (fun i => i + 1) = Nat.succ := rfl
    rw [e, e2]
    by_cases h : x = c
    · rw [if_pos h, if_pos (by simp [h])]
    · rw [if_neg h, if_neg (by simp [h])]
theorem occ_bytes (b : List UInt8) (c : UInt8) : Bytes.occurrences b.toArray #[c] 0 b.length = occS c b := by
  unfold Bytes.occurrences
  have er : (List.range (b.length + 1 - (0 + (#[c] : Array UInt8).size))).map (· + 0) = List.range b.length := by simp
  simp only [er]
  have key : ∀ n, n ≤ b.length → ∃ f, (List.range n).foldl (fun (acc : List Nat × Nat) i => if (i ≥ acc.2 && b.toArray.extract i (i + (#[c] : Array UInt8).size) == #[c]) = true then (i :: acc.1, i + (#[c] : Array UInt8).size) else acc) ([], 0) =
      (((List.range n).filter fun i => b[i]? == some c).reverse, f) ∧ f ≤ n := by
    intro n
    induction n with
    | zero => intro _; exact ⟨0, rfl, Nat.le_refl _⟩
    | succ n ih =>
      intro hn
      obtain ⟨f, e, hf⟩ := ih (by omega)
      rw [List.range_succ, List.foldl_append, e, List.filter_append]
      simp only [List.foldl_cons, List.foldl_nil]
      have eb : (decide (n ≥ f) && b.toArray.extract n (n + (#[c] : Array UInt8).size) == #[c]) = (b[n]? == some c) := by
        rw [decide_eq_true hf, Bool.true_and, Bool.eq_iff_iff, extract_one, beq_iff_eq]
      rw [eb]
      cases hb : (b[n]? == some c) with
      | true =>
        refine ⟨n + 1, ?_, Nat.le_refl _⟩
        simp [hb]
      | false =>
        refine ⟨f, ?_, by omega⟩
        simp [hb]
  obtain ⟨f, e, _⟩ := key b.length (Nat.le_refl _)
  rw [e, List.reverse_reverse, occS_eq]
theorem between_eq (b : List UInt8) (ps : List Nat) : Bytes.between b.toArray 1 ps = (betw b 0 ps).map List.toArray := by
  unfold Bytes.between
  have key : ∀ (ps : List Nat) (parts : Array (Array UInt8)) (last : Nat),
      (let r := ps.foldl (fun (x : Array (Array UInt8) × Nat) p => (x.1.push (b.toArray.extract x.2 p), p + 1)) (parts, last); (r.1.push (b.toArray.extract r.2 b.toArray.size)).toList) = parts.toList ++ (betw b last ps).map List.toArray := by
    intro ps
    induction ps with
    | nil =>
      intro parts last
      simp [betw, List.extract_toArray, List.extract_eq_take_drop]
      exact List.take_of_length_le (by simp)
    | cons p ps ih =>
      intro parts last
      rw [List.foldl_cons]
      have := ih (parts.push (b.toArray.extract last p)) (p + 1)
      dsimp only at this ⊢
      rw [this]
      simp [betw, List.extract_toArray, List.extract_eq_take_drop]
  have := key ps #[] 0
  simpa using this
theorem splitB_map {c : Nat} (hc : c < 256) : ∀ {l : List Nat}, (∀ x ∈ l, x < 256) → splitB (UInt8.ofNat c) (l.map UInt8.ofNat) = (splitS c l).map (·.map UInt8.ofNat)
  | [], _ => rfl
  | x :: r, hl => by
    have ih := splitB_map hc (l := r) fun y hy => hl y (List.mem_cons_of_mem _ hy)
    rw [List.map_cons]
    unfold splitB splitS
    by_cases h : x = c
    · rw [if_pos h, if_pos (by rw [h]), ih]; rfl
    · rw [if_neg h, if_neg (fun e => h (ofNat_inj (hl x List.mem_cons_self) hc e)), ih]
      cases splitS c r <;> rfl
theorem splitS_mem {c : Nat} : ∀ {l : List Nat} {p : List Nat}, p ∈ splitS c l → ∀ x ∈ p, x ∈ l
  | [], p, hp, x, hx => by simp [splitS] at hp; subst hp; cases hx
  | y :: r, p, hp, x, hx => by
    unfold splitS at hp
    by_cases h : y = c
    · rw [if_pos h] at hp
      rcases List.mem_cons.mp hp with e | hp
      · subst e; cases hx
      · exact List.mem_cons_of_mem _ (splitS_mem hp x hx)
    · rw [if_neg h] at hp
      cases hs : splitS c r with
      | nil => exact absurd hs (splitS_ne c r)
      | cons q qs =>
        rw [hs] at hp
        rcases List.mem_cons.mp hp with e | hp
        · subst e
          rcases List.mem_cons.mp hx with e | hx
          · subst e; exact List.mem_cons_self
          · exact List.mem_cons_of_mem _ (splitS_mem (p := q) (by rw [hs]; exact List.mem_cons_self) x hx)
        · exact List.mem_cons_of_mem _ (splitS_mem (p := p) (by rw [hs]; exact List.mem_cons_of_mem _ hp) x hx)
theorem splitS_length (c : Nat) : ∀ l : List Nat, (splitS c l).length ≤ l.length + 1
  | [] => by simp [splitS]
  | x :: r => by
    have ih := splitS_length c r
    unfold splitS
    by_cases h : x = c
    · rw [if_pos h]; simp; omega
    · rw [if_neg h]
      cases hs : splitS c r with
      | nil => simp
      | cons q qs => rw [hs] at ih; simp at ih ⊢; omega
theorem splitS_part_length {c : Nat} : ∀ {l : List Nat} {p : List Nat}, p ∈ splitS c l → p.length ≤ l.length
  | [], p, hp => by simp [splitS] at hp; subst hp; simp
  | x :: r, p, hp => by
    unfold splitS at hp
    by_cases h : x = c
    · rw [if_pos h] at hp
      rcases List.mem_cons.mp hp with e | hp
      · subst e; simp
      · have := splitS_part_length hp; simp; omega
    · rw [if_neg h] at hp
      cases hs : splitS c r with
      | nil => exact absurd hs (splitS_ne c r)
      | cons q qs =>
        rw [hs] at hp
        rcases List.mem_cons.mp hp with e | hp
        · subst e
          have := splitS_part_length (p := q) (l := r) (c := c) (by rw [hs]; exact List.mem_cons_self)
          simp; omega
        · have := splitS_part_length (p := p) (l := r) (c := c) (by rw [hs]; exact List.mem_cons_of_mem _ hp)
          simp; omega

section
variable {prog : Program} {w : World} {A : Around} {E : Value → Shared → Prop} {s : Shared} {l : List Nat} {c : Nat} {t u : Tok}
theorem wpAny_mapM_mkBytes {M : Model} (ps : List (List Nat)) : ∀ (s : Shared) (Q : List Value → Shared → Prop), (∀ p ∈ ps, (∀ x ∈ p, x < 256) ∧ p.length ≤ 16777216) → (∀ xs k, (∀ z, RepL z (ps.map (.txt true)) xs) → Q xs { s with toks := k }) →
    wpAny M A ((ps.map fun p => (p.map UInt8.ofNat).toArray).mapM (Bytes.Kind.new .bytes)) Q E s := by
  induction ps with
  | nil => intro s Q _ h; rw [List.map_nil, List.mapM_nil]; exact wpAny_pure (h [] s.toks fun z => .nil)
  | cons p ps ih =>
    intro s Q hp h
    rw [List.map_cons, List.mapM_cons]
    obtain ⟨h1, h2⟩ := hp p List.mem_cons_self
    refine wpAny_bind ?_
    show wpAny M A (mkBytes _) _ E s
    refine wpAny_mkBytes ?_ (by rw [List.size_toArray, List.length_map]; exact size_ok h2)
    refine wpAny_bind (ih _ _ (fun q hq => hp q (List.mem_cons_of_mem _ hq)) fun xs k r => wpAny_pure (h _ k fun z => .cons (.bytes p _ h1) (r z)))
theorem call_bytes_split {Q : Value → Shared → Prop} (hl : ∀ x ∈ l, x < 256) (hc : c < 256) (hn : l.length ≤ 10000000)
    (h : ∀ xs k, (∀ z, RepL z ((splitS c l).map (.txt true)) xs) → Q (.ref s.heap.objs.size) { s with heap := s.heap.push (lstO xs 0), toks := k }) :
    wpAny (model prog w) A (call (.builtin "bytes.split") [.bytes (l.map UInt8.ofNat).toArray t, .bytes #[UInt8.ofNat c] u]) Q E s := by
  have g : Meets («bytes.split» ⟨[.bytes (l.map UInt8.ofNat).toArray t, .bytes #[UInt8.ofNat c] u], []⟩)
      (fun _ R s => ∀ xs k, (∀ z, RepL z ((splitS c l).map (.txt true)) xs) → R (.ok (.ret (.ref s.heap.objs.size))) { s with heap := s.heap.push (lstO xs 0), toks := k }) := by
    refine .of_wp fun prog w A R s hq => ?_
    have hocc := occ_bytes (l.map UInt8.ofNat) (UInt8.ofNat c)
    rw [List.length_map] at hocc
    have hb : splitB (UInt8.ofNat c) (l.map UInt8.ofNat) = (splitS c l).map (·.map UInt8.ofNat) := splitB_map hc hl
    have hbt := betw_split (UInt8.ofNat c) (l.map UInt8.ofNat)
    show wpAny _ _ (Bytes.bytesLike "bytes.split" (.bytes #[UInt8.ofNat c] u) >>= fun sep => _) _ _ s
    refine wpAny_bind (wpAny_of_eq bytesLike_eq ?_)
    show wpAny _ _ (if (Bytes.occurrences (l.map UInt8.ofNat).toArray #[UInt8.ofNat c] 0 (l.map UInt8.ofNat).toArray.size |>.take ((l.map UInt8.ofNat).toArray.size + 1)).isEmpty = true then _ else
      (Bytes.between (l.map UInt8.ofNat).toArray 1 (Bytes.occurrences (l.map UInt8.ofNat).toArray #[UInt8.ofNat c] 0 (l.map UInt8.ofNat).toArray.size |>.take ((l.map UInt8.ofNat).toArray.size + 1))).mapM (Bytes.Kind.new .bytes) >>= fun vs => newList vs >>= fun r => ret r) _ _ s
    rw [List.size_toArray, List.length_map, hocc]
    have htake : (occS (UInt8.ofNat c) (l.map UInt8.ofNat)).take (l.length + 1) = occS (UInt8.ofNat c) (l.map UInt8.ofNat) := by
      apply List.take_of_length_le
      rw [occS_eq]
      refine Nat.le_trans (List.length_filter_le _ _) ?_
      simp
    rw [htake, between_eq, hbt, hb]
    by_cases he : (occS (UInt8.ofNat c) (l.map UInt8.ofNat)).isEmpty = true
    · rw [if_pos he]
      have h0 : occS (UInt8.ofNat c) (l.map UInt8.ofNat) = [] := List.isEmpty_iff.mp he
      rw [h0] at hbt
      have h1 : (splitS c l).map (·.map UInt8.ofNat) = [l.map UInt8.ofNat] := by rw [← hb, ← hbt]; simp [betw]
      have h2 : splitS c l = [l] := by
        cases hs : splitS c l with
        | nil => exact absurd hs (splitS_ne c l)
        | cons p ps =>
          rw [hs] at h1
          simp only [List.map_cons, List.cons.injEq, List.map_eq_nil_iff] at h1
          obtain ⟨h1, rfl⟩ := h1
          rw [map_ofNat_inj (fun x hx => hl x (splitS_mem (by rw [hs]; exact List.mem_cons_self) x hx)) hl h1]
      refine wpAny_bind (wpAny_rule (wpAny_bind (wpAny_bind (wpAny_typeOf (PySem.W.typeIs_bytes s _ t) (wpAny_pure ?_)))))
      refine wpAny_bind (wpAny_newList (wpAny_pure ⟨_, rfl, ?_⟩) (by show 1 ≤ sizeLine; decide))
      exact hq [.bytes (l.map UInt8.ofNat).toArray t] s.toks fun z => by rw [h2]; exact .cons (.bytes l t hl) .nil
    · rw [if_neg he]
      have em : ((splitS c l).map (·.map UInt8.ofNat)).map List.toArray = (splitS c l).map fun p => (p.map UInt8.ofNat).toArray := by rw [List.map_map]; rfl
      rw [em]
      refine wpAny_bind (wpAny_mapM_mkBytes (splitS c l) s _ (fun p hp => ⟨fun x hx => hl x (splitS_mem hp x hx), Nat.le_trans (splitS_part_length hp) (by omega)⟩) fun xs k r => ?_)
      refine wpAny_bind (wpAny_newList (wpAny_pure ⟨_, rfl, hq xs k r⟩) ?_)
      rw [(r fun _ => none).length, List.length_map]
      exact size_ok (Nat.le_trans (splitS_length c l) (by omega))
  exact call_meets BF.slot_split (PySem.W.typeIs_bytes _ _ _) BF.entry_split (BF.args_split _ _) g h
end
end
end PL

end
section
open PySem PySem.Calls PyProof.Rows
set_option Elab.async false
set_option linter.unusedVariables false
set_option linter.unusedSimpArgs false
namespace PL
section
open Builtin
abbrev arr (p : List Nat) : Array UInt8 := (p.map UInt8.ofNat).toArray

theorem takeBufferQuiet_eq {id : String} {b : Array UInt8} {t : Tok} : Bytes.takeBufferQuiet? id (.bytes b t) 0 = pure (some (b, none)) := by
  have e : Bytes.takeBuffer? id (.bytes b t) 0 = pure (some (b, none)) := by
    unfold Bytes.takeBuffer?
    rw [PySem.W.KBy.special_eq PySem.W.KBy.look_buffer]
    simp only [pure_bind]
    rw [PySem.W.KBy.own_buffer]
    show ((Bytes.buffer? id (.bytes b t) (full := (0 : Int) == Bytes.fullReadOnly)) >>= fun r => pure (r.map (·, none))) = _
    have : ((0 : Int) == Bytes.fullReadOnly) = false := by decide
    rw [this, PySem.W.KBy.buffer_eq]
    rfl
  unfold Bytes.takeBufferQuiet?
  rw [e]
  rfl
theorem wpAny_joinLetGo {M : Model} {A : Around} {E : Value → Shared → Prop} {s : Shared} {keep : List Value} : ∀ {taken : List (Value × Option Value)} {Q : Unit → Shared → Prop}, (∀ p ∈ taken, p.2 = none) → Q () s → wpAny M A (Bytes.joinLetGo taken keep) Q E s
  | [], Q, _, h => wpAny_pure h
  | (x, w) :: rest, Q, hn, h => by
    have : w = none := hn (x, w) List.mem_cons_self
    subst this
    unfold Bytes.joinLetGo
    exact wpAny_bind (wpAny_letGo (wpAny_joinLetGo (fun p hp => hn p (List.mem_cons_of_mem _ hp)) h))
theorem joined_go (sep : List UInt8) : ∀ (ps : List (List UInt8)) (acc : List UInt8) (k : Nat), 0 < k →
    ((ps.map List.toArray).zipIdx k).foldl (fun (out : Array UInt8) (x : Array UInt8 × Nat) => (if x.2 > 0 then out ++ sep.toArray else out) ++ x.1) acc.toArray = (acc ++ (ps.map (sep ++ ·)).flatten).toArray
  | [], acc, k, _ => by simp
  | p :: ps, acc, k, hk => by
    rw [List.map_cons, List.zipIdx_cons, List.foldl_cons]
    have ih := joined_go sep ps (acc ++ sep ++ p) (k + 1) (by omega)
    simp only [if_pos hk, gt_iff_lt]
    have e : acc.toArray ++ sep.toArray ++ p.toArray = (acc ++ sep ++ p).toArray := by simp
    rw [e]
    simp only [gt_iff_lt] at ih
    rw [ih]
    simp
def joinB (sep : List UInt8) : List (List UInt8) → List UInt8
  | [] => []
  | [p] => p
  | p :: q :: r => p ++ sep ++ joinB sep (q :: r)
theorem joinB_flat (sep : List UInt8) : ∀ (p : List UInt8) (ps : List (List UInt8)), joinB sep (p :: ps) = p ++ (ps.map (sep ++ ·)).flatten
  | p, [] => by simp [joinB]
  | p, q :: r => by
    have ih := joinB_flat sep q r
    simp [joinB, ih]
theorem joined_eq (sep : List UInt8) (ps : List (List UInt8)) : Bytes.joined sep.toArray (ps.map List.toArray) = (joinB sep ps).toArray := by
  unfold Bytes.joined
  cases ps with
  | nil => rfl
  | cons p ps =>
    rw [List.map_cons, List.zipIdx_cons, List.foldl_cons]
    have := joined_go sep ps p 1 (by omega)
    simp only [gt_iff_lt, Nat.lt_irrefl, if_false, Nat.zero_add] at this ⊢
    have e : (#[] : Array UInt8) ++ p.toArray = p.toArray := by simp
    rw [e, this, joinB_flat]
theorem joinB_map (sep : List Nat) : ∀ ps : List (List Nat), joinB (sep.map UInt8.ofNat) (ps.map (·.map UInt8.ofNat)) = (joinS sep ps).map UInt8.ofNat
  | [] => rfl
  | [p] => rfl
  | p :: q :: r => by
    have ih := joinB_map sep (q :: r)
    simp only [List.map_cons] at ih
    simp [joinB, joinS, ih]
theorem joinS_length (sep : List Nat) : ∀ ps : List (List Nat), (joinS sep ps).length = (ps.map List.length).sum + sep.length * (ps.length - 1)
  | [] => by simp [joinS]
  | [p] => by simp [joinS]
  | p :: q :: r => by
    have ih := joinS_length sep (q :: r)
    simp only [joinS, List.length_append, ih, List.map_cons, List.sum_cons, List.length_cons]
    have : sep.length * (r.length + 1 + 1 - 1) = sep.length * (r.length + 1 - 1) + sep.length := by
      have e1 : r.length + 1 + 1 - 1 = r.length + 1 - 1 + 1 := by omega
      rw [e1, Nat.mul_succ]
    omega
theorem joinS_mem {sep : List Nat} {x : Nat} : ∀ {ps : List (List Nat)}, x ∈ joinS sep ps → x ∈ sep ∨ ∃ p ∈ ps, x ∈ p
  | [], h => by simp [joinS] at h
  | [p], h => .inr ⟨p, List.mem_cons_self, h⟩
  | p :: q :: r, h => by
    simp only [joinS, List.mem_append] at h
    rcases h with (h | h) | h
    · exact .inr ⟨p, List.mem_cons_self, h⟩
    · exact .inl h
    · rcases joinS_mem h with h | ⟨p', hp', h⟩
      · exact .inl h
      · exact .inr ⟨p', List.mem_cons_of_mem _ hp', h⟩
theorem foldl_sizes (ps : List (List Nat)) : ∀ k : Nat, (ps.map arr).foldl (fun a b => a + b.size) k = k + (ps.map List.length).sum := by
  induction ps with
  | nil => intro k; simp
  | cons p ps ih => intro k; rw [List.map_cons, List.foldl_cons, ih]; simp; omega

theorem RepL.bytesAt {z : Z} {ps : List (List Nat)} {xs : List Value} (r : RepL z (ps.map (.txt true)) xs) {i : Nat} {p : List Nat} (h : ps[i]? = some p) : ∃ t, xs[i]? = some (.bytes (arr p) t) ∧ ∀ c ∈ p, c < 256 := by
  obtain ⟨x, hx, rx⟩ := r.get (i := i) (v := .txt true p) (by rw [List.getElem?_map, h]; rfl)
  cases rx with
  | bytes _ t hl => exact ⟨t, hx, hl⟩

section
variable {prog : Program} {w : World} {A : Around} {E : Value → Shared → Prop} {s : Shared}
theorem meets_bytes_join {sep : List Nat} {t : Tok} {a : Addr} {ps : List (List Nat)} {xs : List Value} {n : Nat} {z : Z} (hr : RepL z (ps.map (.txt true)) xs) (hs : ∀ c ∈ sep, c < 256) (hn : (joinS sep ps).length ≤ 16777216) :
    Meets («bytes.join» ⟨[.bytes (arr sep) t, .ref a], []⟩) (fun _ R s => s.heap.get? a = some (lstO xs n) ∧ ∀ t' k, R (.ok (.ret (.bytes (arr (joinS sep ps)) t'))) { s with toks := k }) := by
  refine .of_wp fun prog w A R s hS => ?_
  obtain ⟨ho, hq⟩ := hS
  have hlen : xs.length = ps.length := by rw [hr.length, List.length_map]
  have hT : s.TypeIs (.ref a) "list" := ⟨_, ho, rfl⟩
  have seqI : ∀ {Q : Option (Array Value) → Shared → Prop} {A E}, Q (some xs.toArray) s → wpAny (model prog w) A (seqItems? (.ref a)) Q E s := fun h => by
    unfold seqItems?
    exact wpAny_bind (wpAny_load ho (wpAny_pure h))
  show wpAny (model prog w) A.in1 (Bytes.joinItems (.ref a) >>= fun seq => _) _ _ s
  refine wpAny_bind ?_
  unfold Bytes.joinItems
  refine wpAny_bind (wpAny_typeOf hT ?_)
  refine wpAny_ite ?_
  rw [if_pos (by rfl)]
  refine wpAny_pure ?_
  refine wpAny_bind (seqI ?_)
  dsimp only
  -- the long way
  have long : wpAny (model prog w) A.in1 (do
      let __s ← forIn [:xs.toArray.size] ((#[] : Array (Array UInt8)), ([] : List (Value × Option Value))) fun i __s => do
        let held : List Value := (Value.ref a) :: __s.2.flatMap fun (y, u) => y :: u.toList
        let some now ← seqItems? (.ref a) | (do unsupported "internal:bytes.join"; pure (ForInStep.yield (__s.1, __s.2)))
        let x := now.getD i .none
        let jp : Unit → Sem (ForInStep (Array (Array UInt8) × List (Value × Option Value))) := fun _ => do
          let some (b, w) ← holding (x :: held) (Bytes.takeBufferQuiet? "bytes.join" x 0) | (do
            rule "bytes.join.item-not-bytes-like"
            holding (x :: held.drop 1) point
            Bytes.joinLetGo __s.2 [x]
            raiseErrorMade "TypeError" s!"sequence item {i}: expected a bytes-like object, {← typeNameOf x} found"
            pure (ForInStep.yield (__s.1, __s.2)))
          let some after ← seqItems? (.ref a) | (do unsupported "internal:bytes.join"; pure (ForInStep.yield (__s.1.push b, __s.2 ++ [(x, w)])))
          if after.size != xs.toArray.size then do
            rule "bytes.join.changed-size"
            Bytes.joinLetGo (__s.2 ++ [(x, w)]) []
            raiseErrorWords "RuntimeError" "sequence changed size during iteration"
            pure (ForInStep.yield (__s.1.push b, __s.2 ++ [(x, w)]))
          else pure (ForInStep.yield (__s.1.push b, __s.2 ++ [(x, w)]))
        if (Bytes.Kind.bytes == Bytes.Kind.bytearray || __s.2.any fun x => x.1.onHeap) = true then do
          match ← specialOf x "__buffer__" with
          | none => jp ()
          | some (.builtin _) => jp ()
          | some val => do jp (← unsupported "bytes.join:buffer")
        else jp ()
      let sep' ← Bytes.payload (.bytes (arr sep) t)
      let jp : Unit → Sem PySem.Fin := fun _ => do
        let result ← Bytes.Kind.bytes.new (Bytes.joined sep' __s.1.toList)
        holding (result :: __s.2.flatMap fun (y, u) => y :: u.toList) point
        Bytes.joinLetGo __s.2 [result]
        ret result
      if Bytes.tooLong (__s.1.foldl (fun x1 x2 => x1 + x2.size) (sep'.size * (__s.1.size - 1))) = true then do
        jp (← unsupported "bytes.join:memory")
      else jp ()) (fun fin s' => ∃ v, fin = .done (.ret v) ∧ R (.ok (.ret v)) s') (fun e s' => R (.error e) s') s := by
    refine wpAny_bind ?_
    rw [Std.Legacy.Range.forIn_eq_forIn_range']
    refine wpAny_forIn_list _ (fun rest b s' => s' = s ∧ ∃ i, rest = List.range' i (xs.length - i) ∧ i ≤ xs.length ∧ b.1.toList = (ps.take i).map arr ∧ (∀ p ∈ b.2, p.2 = none ∧ p.1.onHeap = false)) _ ?_ ?_ _ _ ⟨rfl, 0, ?_, Nat.zero_le _, by simp, by simp⟩
    · rintro i rest b s' ⟨rfl, j, hrest, hj, hb1, hb2⟩
      have hlt : j < xs.length := by
        rcases Nat.lt_or_ge j xs.length with h | h
        · exact h
        · rw [show xs.length - j = 0 by omega] at hrest; cases hrest
      have hij : i = j ∧ rest = List.range' (j + 1) (xs.length - (j + 1)) := by
        rw [show xs.length - j = (xs.length - (j + 1)) + 1 by omega, List.range'_succ] at hrest
        exact List.cons.inj hrest
      obtain ⟨rfl, hrest'⟩ := hij
      have hp : ∃ p, ps[i]? = some p := ⟨ps[i]'(by omega), List.getElem?_eq_getElem (by omega)⟩
      obtain ⟨p, hp⟩ := hp
      obtain ⟨tk, hx, hp256⟩ := hr.bytesAt hp
      have hx' : xs.toArray.getD i .none = .bytes (arr p) tk := by
        simp [Array.getD_eq_getD_getElem?, hx]
      refine wpAny_bind (seqI ?_)
      dsimp only
      rw [hx']
      have hany : (Bytes.Kind.bytes == Bytes.Kind.bytearray || b.2.any fun x => x.1.onHeap) = false := by
        have : (b.2.any fun x => x.1.onHeap) = false := by
          rw [List.any_eq_false]; intro q hq; rw [(hb2 q hq).2]; exact Bool.false_ne_true
        rw [this]; rfl
      rw [hany, if_neg Bool.false_ne_true]
      refine wpAny_bind (wpAny_holding (wpAny_of_eq takeBufferQuiet_eq ?_))
      refine wpAny_bind (seqI ?_)
      dsimp only
      rw [if_neg (by simp)]
      refine wpAny_pure ⟨rfl, i + 1, hrest', by omega, ?_, ?_⟩
      · rw [Array.toList_push, hb1, List.take_add_one, hp]; simp
      · intro q hq
        rcases List.mem_append.mp hq with hq | hq
        · exact hb2 q hq
        · rw [List.mem_singleton] at hq; subst hq; exact ⟨rfl, rfl⟩
    · rintro b s' ⟨rfl, j, hrest, hj, hb1, hb2⟩
      have hj2 : j = xs.length := by
        rcases Nat.lt_or_ge j xs.length with h | h
        · rw [show xs.length - j = (xs.length - (j + 1)) + 1 by omega, List.range'_succ] at hrest; cases hrest
        · omega
      have hall : b.1.toList = ps.map arr := by rw [hb1, hj2, hlen, List.take_length]
      refine wpAny_bind (wpAny_of_eq (a := arr sep) rfl ?_)
      have hsize : b.1.foldl (fun x1 x2 => x1 + x2.size) ((arr sep).size * (b.1.size - 1)) = (joinS sep ps).length := by
        have h1 : b.1.size = ps.length := by rw [← Array.length_toList, hall, List.length_map]
        rw [← Array.foldl_toList, hall, foldl_sizes, h1, joinS_length]
        simp; omega
      have hlong : Bytes.tooLong (b.1.foldl (fun x1 x2 => x1 + x2.size) ((arr sep).size * (b.1.size - 1))) = false := by
        rw [hsize]; exact PySem.W.KBy.tooLong_not hn
      rw [hlong, if_neg Bool.false_ne_true]
      have hj3 : Bytes.joined (arr sep) b.1.toList = arr (joinS sep ps) := by
        rw [hall]
        have : ps.map arr = (ps.map (·.map UInt8.ofNat)).map List.toArray := by rw [List.map_map]; rfl
        rw [this]
        show Bytes.joined (sep.map UInt8.ofNat).toArray _ = _
        rw [joined_eq, joinB_map]
      rw [hj3]
      refine wpAny_bind ?_
      show wpAny _ _ (mkBytes _) _ _ _
      refine wpAny_mkBytes ?_ (by rw [List.size_toArray, List.length_map]; exact size_ok hn)
      refine wpAny_bind (wpAny_holding (wpAny_point ?_))
      refine wpAny_bind (wpAny_joinLetGo (fun p hp => (hb2 p hp).1) ?_)
      exact wpAny_pure ⟨_, rfl, hq _ _⟩
    · simp
  have hk : (Bytes.Kind.bytes == Bytes.Kind.bytes) = true := rfl
  rw [if_pos hk]
  by_cases h1 : xs.length = 1
  · obtain ⟨x, rfl⟩ := List.length_eq_one_iff.mp h1
    have hp1 : ∃ p, ps = [p] := List.length_eq_one_iff.mp (by rw [← hlen, h1])
    obtain ⟨p, rfl⟩ := hp1
    obtain ⟨tk, hx, hp256⟩ := hr.bytesAt (i := 0) rfl
    simp at hx
    subst hx
    refine wpAny_bind (wpAny_typeOf (PySem.W.typeIs_bytes s _ tk) ?_)
    refine wpAny_ite ?_
    rw [if_pos (by rfl)]
    exact wpAny_bind (wpAny_rule (wpAny_pure ⟨_, rfl, hq tk s.toks⟩))
  · cases xs with
    | nil => exact long
    | cons x r => cases r with
      | nil => exact absurd rfl h1
      | cons y r => exact long
end
end
end PL

end
section
open PySem PySem.Calls PyProof.Rows
set_option Elab.async false
set_option linter.unusedVariables false
set_option linter.unusedSimpArgs false
namespace PL

section
variable {C : Cx} {X : XP} {σ : St} {Q : V → St → Prop} {o : Bool} {l m : List Nat} {i : Int} {c : Nat}

theorem strlen {l : List Nat} : (⟨l.toArray⟩ : Str).length = l.length := by simp [Str.length]
theorem str_app (l m : List Nat) : (⟨l.toArray⟩ : Str) ++ ⟨m.toArray⟩ = ⟨(l ++ m).toArray⟩ := Str.ext' (by simp [Str.cps_append])
theorem arr_app (l m : List Nat) : arr l ++ arr m = arr (l ++ m) := by simp [arr]

theorem Bin.add_txt (hn : l.length + m.length ≤ 16777216) (h : Q (.txt o (l ++ m)) σ) : Bin C .Add (.txt o l) (.txt o m) Q X σ := by
  intro z₀ x y rx ry zs z s hz hR
  cases rx with
  | str _ t => cases ry with
    | str _ u =>
      refine SB.add (fun t' k => ?_) (by rw [strlen, strlen]; exact size_ok hn)
      rw [str_app]
      exact PVal.toks hR (.str _ _) h
  | bytes _ t hl => cases ry with
    | bytes _ u hm =>
      refine PySem.W.KBy.add_bytes (by simpa using hn) fun t' k => ?_
      rw [arr_app]
      exact PVal.toks hR (.bytes _ _ fun c hc => (List.mem_append.mp hc).elim (hl c) (hm c)) h
theorem Inp.add_str (hn : l.length + m.length ≤ 16777216) (h : Q (.txt false (l ++ m)) σ) : Inp C .Add (.txt false l) (.txt false m) Q X σ := by
  intro z₀ x y rx ry zs z s hz hR
  cases rx with
  | str _ t => cases ry with
    | str _ u =>
      refine SB.iadd (fun t' k => ?_) (by rw [strlen, strlen]; exact size_ok hn)
      rw [str_app]
      exact PVal.toks hR (.str _ _) h

/-! methods of texts -/
end
end PL

end
section
open PySem PySem.Calls PyProof.Rows
set_option Elab.async false
set_option linter.unusedVariables false
set_option linter.unusedSimpArgs false
namespace PL

abbrev XL := String → Led → Prop

/-- what a call of a function does, for every caller -/
def CallT (g : Gd) (n : Nat) (f : Value) (vs : List V) (Q : V → Led → Prop) (X : XL) (H : Led) : Prop :=
  ∀ (A : Around) (outer : List Env) (zs z : Z) (s : Shared) (xs : List Value), A.depth + n ≤ 900 → A.units + 20 * n ≤ 9000 → A.frames = some outer → A.handled = none → FrOK outer zs → RH g zs H z s → RepL z vs xs →
    codeAny (model g.prog g.w) A (.call f ⟨xs, []⟩) (fun r s' => match r with
      | .ok (.ret val) => ∃ z' H' v, Z.le z z' ∧ RH g zs H' z' s' ∧ Rep z' v val ∧ Q v H'
      | .ok _ => False
      | .error e => ∃ z' H' cls, Z.le z z' ∧ RH g zs H' z' s' ∧ Fly g zs H' z' s' e cls ∧ X cls H') s

section
variable {C : Cx} {σ : St} {zs z : Z} {s : Shared}

/-- the caller's own frame and cells, hidden -/
def hid (C : Cx) (zs : Z) (h : Heap) : Z := fun b => if b = C.env.locals ∨ b ∈ C.env.cells.map (·.2) then h.get? b else zs b
theorem hid_of {b : Addr} {o : Obj} (hR : R C zs σ z s) (h : zs b = some o) : hid C zs s.heap b = some o := by
  unfold hid
  split
  · rename_i e
    rcases e with e | e
    · subst e; rw [hR.locFree.2.1] at h; cases h
    · obtain ⟨p, hp, rfl⟩ := List.mem_map.mp e
      obtain ⟨⟨ov, oc, e1, e2⟩, _⟩ := hR.cellsOk p hp
      obtain ⟨sl, e3, e4⟩ := hR.rh.hzs _ _ h
      rw [e1] at e3
      have e5 : oc = { o with slots := sl } := Option.some.inj e3
      have e6 : o.data = .cell ov := by rw [e5] at e2; exact e2
      rw [e1, e5, e4 (fun vs e7 => by rw [e6] at e7; cases e7)]
  · exact h
theorem hid_none {b : Addr} (h1 : b ≠ C.env.locals) (h2 : b ∉ C.env.cells.map (·.2)) (h3 : zs b = none) {h : Heap} : hid C zs h b = none := by
  unfold hid; rw [if_neg (by rintro (e | e) <;> contradiction)]; exact h3
theorem R.hide (hR : R C zs σ z s) : RH C.g (hid C zs s.heap) σ.H z s where
  hz := hR.rh.hz
  hbase := hR.rh.hbase
  hzs b o h := by
    unfold hid at h
    split at h
    · exact ⟨o.slots, h, fun _ => rfl⟩
    · exact hR.rh.hzs b o h
  disj b o h := by
    unfold hid at h
    split at h
    · rename_i e
      rcases e with e | e
      · subst e; exact hR.locFree.1
      · obtain ⟨p, hp, rfl⟩ := List.mem_map.mp e
        exact (hR.cellsOk p hp).2.1
    · exact hR.rh.disj b o h
  hH p hp := by
    obtain ⟨a, b, c⟩ := hR.rh.hH p hp
    refine ⟨a, b, hid_none (fun e => hR.locFree.2.2 (e ▸ List.mem_map_of_mem (f := (·.1)) hp)) (fun e => ?_) c⟩
    obtain ⟨q, hq, e⟩ := List.mem_map.mp e
    exact (hR.cellsOk q hq).2.2.2.2 (e ▸ List.mem_map_of_mem (f := (·.1)) hp)
  nodup := hR.rh.nodup
  gens := hR.rh.gens
  os := hR.rh.os
theorem ns_slots {h h' : Heap} {L : Addr} {m : Str → Option Value} (n : h.Ns L m) (k : ∀ o, h.get? L = some o → ∃ sl, h'.get? L = some { o with slots := sl }) : h'.Ns L m := by
  obtain ⟨o, es, ep, a, b, c⟩ := n
  obtain ⟨sl, e⟩ := k o a
  exact ⟨_, es, ep, e, b, c⟩
theorem cell_slots {h h' : Heap} {c : Addr} {v : Option Value} (n : h.IsCell c v) (k : ∀ o, h.get? c = some o → ∃ sl, h'.get? c = some { o with slots := sl }) : h'.IsCell c v := by
  obtain ⟨o, a, b⟩ := n
  obtain ⟨sl, e⟩ := k o a
  exact ⟨_, e, b⟩
/-- back in the caller -/
theorem R.back (hR : R C zs σ z s) {H' : Led} {z' : Z} {s' : Shared} (l : Z.le z z') (r : RH C.g (hid C zs s.heap) H' z' s') : R C zs ⟨σ.loc, H'⟩ z' s' := by
  have own : ∀ b, (b = C.env.locals ∨ b ∈ C.env.cells.map (·.2)) → ∀ o, s.heap.get? b = some o → hid C zs s.heap b = some o := by
    intro b hb o ho
    unfold hid; rw [if_pos hb]; exact ho
  have keep : ∀ b, (b = C.env.locals ∨ b ∈ C.env.cells.map (·.2)) → ∀ o, s.heap.get? b = some o → ∃ sl, s'.heap.get? b = some { o with slots := sl } := fun b hb o ho => let ⟨sl, q, _⟩ := r.hzs b o (own b hb o ho); ⟨sl, q⟩
  have free : ∀ b, (b = C.env.locals ∨ b ∈ C.env.cells.map (·.2)) → ∀ o, s.heap.get? b = some o → z' b = none ∧ b ∉ H'.map (·.1) := by
    intro b hb o ho
    refine ⟨r.disj b o (own b hb o ho), fun e => ?_⟩
    obtain ⟨p, hp, rfl⟩ := List.mem_map.mp e
    have := (r.hH p hp).2.2
    rw [own _ hb o ho] at this; cases this
  obtain ⟨m, hn, hm⟩ := hR.ns
  have hL : ∃ o, s.heap.get? C.env.locals = some o := let ⟨o, _, _, a, _⟩ := hn; ⟨o, a⟩
  obtain ⟨oL, hL⟩ := hL
  refine ⟨⟨r.hz, r.hbase, fun b o h => r.hzs b o (hid_of hR h), fun b o h => r.disj b o (hid_of hR h), fun p hp => ?_, r.nodup, r.gens, r.os⟩, ⟨m, ns_slots hn (keep _ (.inl rfl)), fun x v a b => ?_⟩, fun x v a b => ?_, fun p hp => ?_, ?_, hR.fr⟩
  · obtain ⟨a, b, c⟩ := r.hH p hp
    refine ⟨a, b, ?_⟩
    cases e : zs p.1 with
    | none => rfl
    | some o => rw [hid_of hR e] at c; cases c
  · obtain ⟨val, p, q⟩ := hm x v a b
    exact ⟨val, p, q.mono l⟩
  · obtain ⟨c, val, p, q, w⟩ := hR.cells x v a b
    exact ⟨c, val, p, cell_slots q (keep c (.inr (List.mem_map_of_mem (f := (·.2)) (mem_of_lookup p)))), w.mono l⟩
  · obtain ⟨⟨ov, a⟩, _, c, d, _⟩ := hR.cellsOk p hp
    have hm' : p.2 = C.env.locals ∨ p.2 ∈ C.env.cells.map (·.2) := .inr (List.mem_map_of_mem (f := (·.2)) hp)
    obtain ⟨o, ho, _⟩ := id a
    obtain ⟨f1, f2⟩ := free _ hm' o ho
    exact ⟨⟨ov, cell_slots a (keep _ hm')⟩, f1, c, d, f2⟩
  · obtain ⟨f1, f2⟩ := free _ (.inl rfl) oL hL
    exact ⟨f1, hR.locFree.2.1, f2⟩

theorem CallV.fn {X : XP} {Q : V → St → Prop} {f : Value} {vs : List V} {n : Nat} (hn : n ≤ C.n) (hh : C.A.handled = none)
    (h : CallT C.g n f vs (fun v H' => Q v ⟨σ.loc, H'⟩) (fun cls H' => X cls ⟨σ.loc, H'⟩) σ.H) : CallV C f vs Q X σ := by
  intro z₀ xs r zs z s hz hR
  have hd := C.hdep
  have hu := C.hunits
  have hfr : ∃ fr, C.A.frames = some fr ∧ FrOK fr (hid C zs s.heap) := by
    have ho : FrOK C.outer (hid C zs s.heap) := ⟨fun e he => let ⟨a, L, o, b, c, d⟩ := hR.fr.ok e he; ⟨a, L, o, b, hid_of hR c, d⟩⟩
    rcases C.hframes with ⟨a, b⟩ | a
    · refine ⟨_, a, ⟨fun e he => ?_⟩⟩
      rcases List.mem_cons.mp he with rfl | he
      · obtain ⟨m, ⟨oL, es, ep, hL, hdt, _⟩, _⟩ := hR.ns
        refine ⟨by rw [C.hk]; decide, _, oL, b, ?_, fun vs => by rw [hdt]; intro e; cases e⟩
        unfold hid; rw [if_pos (.inl rfl)]; exact hL
      · exact ho.ok e he
    · exact ⟨_, a, ho⟩
  obtain ⟨fr, hfr1, hfr2⟩ := hfr
  refine wpAny_call (codeAny_mono (h C.A fr _ z s xs (by omega) (by omega) hfr1 hh hfr2 hR.hide (r.mono hz)) ?_)
  rintro res s' hres
  cases res with
  | ok fl => cases fl with
    | ret val =>
      obtain ⟨z', H', v, l, r', rv, q⟩ := hres
      exact ⟨z', _, l, hR.back l r', v, rv, q⟩
    | _ => exact hres
  | error e =>
    obtain ⟨z', H', cls, l, r', fl, x⟩ := hres
    exact absurd fl.no id
end

/-- the names of a call, bound -/
def bindV : List (Str × V) → List (Str × V) → List (Str × V)
  | [], l => l
  | (x, v) :: r, l => bindV r (setL l x v)

inductive RepB (z : Z) : List (Str × V) → List (Str × Value) → Prop
  | nil : RepB z [] []
  | cons {x : Str} {v : V} {val : Value} {l : List (Str × V)} {b : List (Str × Value)} (h : Rep z v val) (t : RepB z l b) : RepB z ((x, v) :: l) ((x, val) :: b)
theorem RepB.zip {z : Z} : ∀ (ns : List Str) {vs : List V} {xs : List Value}, RepL z vs xs → RepB z (ns.zip vs) (ns.zip xs)
  | [], _, _, _ => by simp; exact .nil
  | n :: ns, _, _, .nil => by simp; exact .nil
  | n :: ns, _, _, .cons h t => by simpa using RepB.cons h (RepB.zip ns t)

theorem bind_reps {z : Z} {kindOf : Str → Option NameKind} : ∀ {lv : List (Str × V)} {bs : List (Str × Value)}, RepB z lv bs → ∀ (loc : List (Str × V)) (m cm : Str → Option Value),
    (∀ x v, loc.lookup x = some v → kindOf x = some .local → ∃ val, m x = some val ∧ Rep z v val) → (∀ x v, loc.lookup x = some v → kindOf x ≠ some .local → ∃ val, cm x = some val ∧ Rep z v val) →
    (∀ x v, (bindV lv loc).lookup x = some v → kindOf x = some .local → ∃ val, bindL kindOf bs m x = some val ∧ Rep z v val) ∧
    (∀ x v, (bindV lv loc).lookup x = some v → kindOf x ≠ some .local → ∃ val, bindC kindOf bs cm x = some val ∧ Rep z v val)
  | _, _, .nil, loc, m, cm, h1, h2 => ⟨h1, h2⟩
  | _, _, .cons (x := y) (v := v) (val := val) r t, loc, m, cm, h1, h2 => by
    unfold bindV bindL bindC
    refine bind_reps t _ _ _ ?_ ?_
    · intro x w hx hk
      rw [lookup_setL] at hx
      by_cases e : x = y
      · subst e; rw [if_pos rfl] at hx; cases hx
        rw [if_pos hk]; exact ⟨val, by simp, r⟩
      · rw [if_neg e] at hx
        obtain ⟨u, p, q⟩ := h1 x w hx hk
        refine ⟨u, ?_, q⟩
        split
        · simp [e, p]
        · exact p
    · intro x w hx hk
      rw [lookup_setL] at hx
      by_cases e : x = y
      · subst e; rw [if_pos rfl] at hx; cases hx
        rw [if_neg hk]; exact ⟨val, by simp, r⟩
      · rw [if_neg e] at hx
        obtain ⟨u, p, q⟩ := h2 x w hx hk
        refine ⟨u, ?_, q⟩
        split
        · exact p
        · simp [e, p]

/-- a frame of a function whose table is `sc` -/
structure In (C : Cx) (g : Gd) (n : Nat) (sc : Scope) : Prop where
  g : C.g = g
  n : C.n = n
  kind : ∀ x, C.env.kindOf x = sc.names.lookup x
  cell : ∀ x, sc.names.lookup x = some .cell → ∃ c, C.env.cells.lookup x = some c
  calm : C.A.handled = none
  fn : C.env.scope = sc
  gl : C.env.globals = mainGlobals

/-- a plain def of the text -/
structure IsFn (g : Gd) (a : Addr) (fd : FuncData) (body : List Stmt) (sc : Scope) (params : List Str) : Prop where
  at_ : ∃ o, g.base.get? a = some o ∧ o.data = .func fd
  code : g.base.CodeRec fd.code fd.qualname
  body : fd.body = .stmts body
  closure : fd.closure = []
  scope : fd.scope = sc
  globals : fd.globals = mainGlobals
  builtins : fd.builtins = builtinsNs
  kind : sc.kind = .function
  co : sc.isCoroutine = false
  gen : sc.isGenerator = false
  bind : ∀ xs : List Value, xs.length = params.length → bindArgs fd ⟨xs, []⟩ = pure (params.zip xs)
  names : ∀ x ∈ params, sc.names.lookup x = some .local ∨ sc.names.lookup x = some .cell
  nodup : ((cellsFrom 0 sc.names []).map (·.1)).Nodup

theorem cellsFrom_keys : ∀ (l : List (Str × NameKind)) (n m : Nat) (acc acc' : List (Str × Addr)), acc.map (·.1) = acc'.map (·.1) → (cellsFrom n l acc).map (·.1) = (cellsFrom m l acc').map (·.1)
  | [], _, _, _, _, h => h
  | (x, k) :: r, n, m, acc, acc', h => by
    unfold cellsFrom
    split
    · exact cellsFrom_keys r _ _ _ _ (by simp [h])
    · exact cellsFrom_keys r _ _ _ _ h
theorem lookup_of_mem : ∀ {l : List (Str × Addr)} {p : Str × Addr}, (l.map (·.1)).Nodup → p ∈ l → l.lookup p.1 = some p.2
  | [], _, _, h => by cases h
  | (k, c) :: r, p, hn, h => by
    rw [List.map_cons, List.nodup_cons] at hn
    rw [List.lookup_cons]
    rcases List.mem_cons.mp h with e | h
    · subst e; simp
    · have : (p.1 == k) = false := beq_eq_false_iff_ne.mpr fun e => hn.1 (e ▸ List.mem_map_of_mem (f := (·.1)) h)
      rw [this]; exact lookup_of_mem hn.2 h

theorem zip_fst {α : Type} : ∀ {ns : List Str} {xs : List α} {p : Str × α}, p ∈ ns.zip xs → p.1 ∈ ns
  | [], _, _, h => by simp at h
  | _ :: _, [], _, h => by simp at h
  | n :: ns, x :: xs, p, h => by
    rw [List.zip_cons_cons] at h
    rcases List.mem_cons.mp h with e | h
    · subst e; exact List.mem_cons_self
    · exact List.mem_cons_of_mem _ (zip_fst h)

theorem CallT.def_ {g : Gd} {n : Nat} {a : Addr} {fd : FuncData} {body : List Stmt} {sc : Scope} {params : List Str} {vs : List V} {Q : V → Led → Prop} {X : XL} {H : Led} (F : IsFn g a fd body sc params) (hlen : vs.length = params.length)
    (h : ∀ C : Cx, In C g n sc → C.ro = [] → TSs C body (fun fl σ' => Q (match fl with | .ret v => v | _ => .none) σ'.H) (fun cls σ' => X cls σ'.H) ⟨bindV (params.zip vs) [], H⟩) : CallT g (n + 1) (.ref a) vs Q X H := by
  intro A outer zs z s xs hd hu hfr hh hfk rh rv
  obtain ⟨o, ho, hdata⟩ := F.at_
  have hb := rh.base
  refine codeAny_call_cells (o := o) (fd := fd) (body := body) (binds := params.zip xs) (by show A.depth < 1000; omega) (hb _ _ ho) hdata (g.lim.keeps hb) (F.code.keeps hb) F.body (F.bind xs (by rw [rv.length, hlen])) F.closure ?_ ?_
    (by rw [F.scope]; exact F.co) (by rw [F.scope]; exact F.gen) (by rw [F.scope]; exact F.kind)
  · intro x hx
    rw [F.scope]
    rcases F.names x.1 (zip_fst hx) with e | e
    · exact .inl e
    · exact .inr ⟨e, PySem.W.cellsFrom_some _ _ _ (.inl e)⟩
  · intro s₁ hin
    have henv : callEnvC fd s.heap.objs.size a = newEnv sc s.heap.objs.size mainGlobals (cellsFrom (s.heap.objs.size + 1) sc.names []) (fd.qualname ++ ".<locals>.") (some a) fd.code none builtinsNs := by
      unfold callEnvC; rw [F.scope, F.globals, F.builtins]
    rw [henv] at hin ⊢
    let C : Cx := {
      g := g, A := A.deeper (newEnv sc s.heap.objs.size mainGlobals (cellsFrom (s.heap.objs.size + 1) sc.names []) (fd.qualname ++ ".<locals>.") (some a) fd.code none builtinsNs)
      env := newEnv sc s.heap.objs.size mainGlobals (cellsFrom (s.heap.objs.size + 1) sc.names []) (fd.qualname ++ ".<locals>.") (some a) fd.code none builtinsNs
      outer := outer, n := n, hk := F.kind, hglob := rfl, hbuilt := rfl
      hdep := by show A.depth + 1 + n ≤ 900; omega
      hunits := by show A.units + 3 + 20 * n ≤ 9000; omega
      hframes := .inl ⟨by show (A.frames.map _) = _; rw [hfr]; rfl, rfl⟩
      apart := hin.apart }
    have hIn : In C g n sc := ⟨rfl, rfl, fun x => rfl, fun x hx => by
      have := PySem.W.cellsFrom_some (x := x) sc.names (s.heap.objs.size + 1) [] (.inl hx)
      exact Option.isSome_iff_exists.mp this, hh, rfl, rfl⟩
    have hnew : ∀ b, s.heap.objs.size ≤ b → z b = none ∧ zs b = none ∧ b ∉ H.map (·.1) := fun b hb => ⟨rh.fresh_z hb, rh.fresh_zs hb, rh.fresh_H hb⟩
    obtain ⟨hrepL, hrepC⟩ := bind_reps (kindOf := C.env.kindOf) (RepB.zip params rv) [] (fun _ => none) (fun _ => none) (fun x v e => by simp at e) (fun x v e => by simp at e)
    obtain ⟨h₁, tk, hs₁⟩ := hin.toInCall.same
    have hR : R C zs ⟨bindV (params.zip vs) [], H⟩ z s₁ := by
      refine ⟨?_, ⟨_, hin.toInCall.ns, fun x v e k => hrepL x v e k⟩, fun x v e k => ?_, fun p hp => ?_, ?_, hfk⟩
      · rw [hs₁]
        exact rh.grow fun b o e => by
          have := hin.toInCall.keep b o e
          rw [hs₁] at this; exact this
      · obtain ⟨val, e1, r⟩ := hrepC x v e (fun q => by rw [q] at k; cases k)
        have hk : sc.names.lookup x = some .cell ∨ sc.names.lookup x = some .free := by
          show sc.names.lookup x = _ ∨ _
          have : cellish (sc.names.lookup x) = true := k
          revert this
          cases sc.names.lookup x with
          | none => intro q; cases q
          | some kk => cases kk <;> intro q <;> first | exact .inl rfl | exact .inr rfl | cases q
        have hlk : (cellsFrom (s.heap.objs.size + 1) sc.names []).lookup x ≠ none := by
          rcases hk with hk | hk
          · have := PySem.W.cellsFrom_some (x := x) sc.names (s.heap.objs.size + 1) [] (.inl hk)
            intro q; rw [q] at this; cases this
          · exfalso
            -- a parameter is never free
            have key : ∀ (ps : List Str) (ws : List V) (loc : List (Str × V)), (∀ y ∈ ps, sc.names.lookup y = some .local ∨ sc.names.lookup y = some .cell) → (∀ y v, loc.lookup y = some v → sc.names.lookup y = some .local ∨ sc.names.lookup y = some .cell) →
                ∀ y v, (bindV (ps.zip ws) loc).lookup y = some v → sc.names.lookup y = some .local ∨ sc.names.lookup y = some .cell := by
              intro ps
              induction ps with
              | nil => intro ws loc _ h2 y v e; simp [bindV] at e; exact h2 y v e
              | cons p ps ih =>
                intro ws loc h1 h2 y v e
                cases ws with
                | nil => simp [bindV] at e; exact h2 y v e
                | cons w ws =>
                  rw [List.zip_cons_cons] at e
                  unfold bindV at e
                  refine ih ws _ (fun q hq => h1 q (List.mem_cons_of_mem _ hq)) (fun q u hu => ?_) y v e
                  rw [lookup_setL] at hu
                  by_cases eq : q = p
                  · subst eq; exact h1 _ List.mem_cons_self
                  · rw [if_neg eq] at hu; exact h2 q u hu
            rcases key params vs [] F.names (fun y v e => by simp at e) x v e with q | q <;> rw [q] at hk <;> cases hk
        obtain ⟨c, hc⟩ := Option.ne_none_iff_exists'.mp hlk
        refine ⟨c, val, hc, ?_, r⟩
        have := hin.cell x c hc
        rw [show bindC C.env.kindOf (params.zip xs) (fun _ => none) x = some val from e1] at this
        exact this
      · have hlt := hin.above p.1 p.2 hp
        obtain ⟨q1, q2, q3⟩ := hnew p.2 (Nat.le_of_lt hlt)
        have hlk : (cellsFrom (s.heap.objs.size + 1) sc.names []).lookup p.1 = some p.2 :=
          lookup_of_mem (by rw [cellsFrom_keys sc.names _ 0 [] [] rfl]; exact F.nodup) hp
        exact ⟨⟨_, hin.cell _ _ hlk⟩, q1, .inl q2, Nat.ne_of_gt hlt, q3⟩
      · obtain ⟨q1, q2, q3⟩ := hnew s.heap.objs.size (Nat.le_refl _)
        exact ⟨q1, q2, q3⟩
    refine wpAny_mono (h C hIn rfl z zs z s₁ (Z.le_refl _) hR) ?_ ?_
    · rintro fl s2 ⟨z2, σ2, l2, R2, f, rf, q⟩
      cases rf with
      | ret r => exact ⟨z2, _, _, l2, R2.rh, r, q⟩
      | next => exact ⟨z2, _, _, l2, R2.rh, .none, q⟩
      | brk => exact ⟨z2, _, _, l2, R2.rh, .none, q⟩
      | cont => exact ⟨z2, _, _, l2, R2.rh, .none, q⟩
    · rintro e s2 ⟨z2, σ2, cls, l2, R2, fl, x⟩
      exact absurd fl.no id
end PL

end
section
open PySem PySem.Calls PyProof.Rows
set_option Elab.async false
set_option linter.unusedVariables false
set_option linter.unusedSimpArgs false
namespace PL

theorem PX.absurd {C : Cx} {zs z : Z} {X : XP} {e : Value} {s : Shared} (h : PX C zs z X e s) {P : Prop} : P := let ⟨_, _, _, _, _, f, _⟩ := h; f.no.elim

section
variable {C : Cx} {zs z : Z} {σ : St} {s : Shared} {I : Addr} {o o' : Obj}

theorem put_le_of (hI : zs I = none) {b : Addr} {p : Obj} (h : zs b = some p) : zs.put I o b = some p := by
  unfold Z.put
  by_cases e : b = I
  · subst e; rw [hI] at h; cases h
  · rw [if_neg e]; exact h
theorem put_none {b : Addr} (h : zs.put I o b = none) : b ≠ I ∧ zs b = none := by
  unfold Z.put at h
  by_cases e : b = I
  · rw [if_pos e] at h; cases h
  · rw [if_neg e] at h; exact ⟨e, h⟩
theorem put_some {b : Addr} {p : Obj} (h : zs.put I o b = some p) (e : b ≠ I) : zs b = some p := by
  unfold Z.put at h; rw [if_neg e] at h; exact h
theorem FrOK.put {outer : List Env} (h : FrOK outer zs) (hI : zs I = none) : FrOK outer (zs.put I o) :=
  ⟨fun e he => let ⟨a, L, q, b, c, d⟩ := h.ok e he; ⟨a, L, q, b, put_le_of hI c, d⟩⟩

/-- the hidden object's own kind: no cell, no namespace -/
def Stays (o : Obj) : Prop := (∀ ov, o.data ≠ .cell ov) ∧ ∀ vs, o.data ≠ .dict vs
theorem Stays.fields {o : Obj} {fs : Array Value} (h : o.data = .fields fs) : Stays o := ⟨fun _ e => (by rw [h] at e; cases e), fun _ e => (by rw [h] at e; cases e)⟩
theorem Stays.list (items : List Value) (n : Nat) : Stays (lstO items n) := ⟨fun _ e => (by cases e), fun _ e => (by cases e)⟩

theorem RH.hidden {g : Gd} {H : Led} (r : RH g zs H z s) (h : zs I = some o) (hs : Stays o) : s.heap.get? I = some o := by
  obtain ⟨sl, e, k⟩ := r.hzs _ _ h
  rw [e, k hs.2]
theorem R.hideAt (hR : R C zs σ z s) (e : s.heap.get? I = some o) (h0 : z I = none) (q : Apart C zs σ I) : R C (zs.put I o) σ z s where
  rh := {
    hz := hR.rh.hz
    hbase := hR.rh.hbase
    hzs := fun b p h => by
      by_cases hb : b = I
      · subst hb; rw [put_self] at h; cases h; exact ⟨o.slots, e, fun _ => rfl⟩
      · exact hR.rh.hzs b p (put_some h hb)
    disj := fun b p h => by
      by_cases hb : b = I
      · subst hb; exact h0
      · exact hR.rh.disj b p (put_some h hb)
    hH := fun p hp => let ⟨a, b, c⟩ := hR.rh.hH p hp; ⟨a, b, put_ne (fun w => q.2.2.1 (w ▸ List.mem_map_of_mem (f := (·.1)) hp)) c⟩
    nodup := hR.rh.nodup
    gens := hR.rh.gens
    os := hR.rh.os }
  ns := hR.ns
  cells := hR.cells
  cellsOk p hp := let ⟨a, b, c, d⟩ := hR.cellsOk p hp; ⟨a, b, c.imp (put_ne (q.2.2.2 p hp)) id, d⟩
  locFree := ⟨hR.locFree.1, put_ne (Ne.symm q.2.1) hR.locFree.2.1, hR.locFree.2.2⟩
  fr := hR.fr.put q.1

theorem R.apartHidC (hR : R C (zs.put I o) σ z s) (hI : zs I = none) (hs : ∀ ov, o.data ≠ .cell ov) : z I = none ∧ Apart C zs σ I := by
  refine ⟨hR.rh.disj _ _ put_self, hI, ?_, ?_, ?_⟩
  · exact Ne.symm (put_none hR.locFree.2.1).1
  · intro h
    obtain ⟨p, hp, e⟩ := List.mem_map.mp h
    exact (put_none (hR.rh.hH p hp).2.2).1 e
  · intro p hp e
    obtain ⟨⟨ov, oc, e1, e2⟩, _⟩ := hR.cellsOk p hp
    obtain ⟨sl, e3, _⟩ := hR.rh.hzs I o put_self
    rw [← e, e1] at e3
    have e4 : oc = { o with slots := sl } := Option.some.inj e3
    rw [e4] at e2
    exact hs ov e2
theorem R.apartHid (hR : R C (zs.put I o) σ z s) (hI : zs I = none) (hs : Stays o) : z I = none ∧ Apart C zs σ I := hR.apartHidC hI hs.1

/-- the hidden object has changed, and new objects may stand behind -/
theorem R.iter (hR : R C (zs.put I o) σ z s) (hI : zs I = none) (hfr : FrOK C.outer zs) (hs : Stays o) {h' : Heap} {t : Nat} (k : Heap.ExtBut I s.heap h') (e : h'.get? I = some o') :
    R C (zs.put I o') σ z { s with heap := h', toks := t } := by
  obtain ⟨h0, q1, q2, q3, q4⟩ := hR.apartHid hI hs
  have ne : ∀ b p, z b = some p → b ≠ I := fun b p hb w => by rw [w, h0] at hb; cases hb
  refine ⟨⟨fun b p hb => k b p (ne b p hb) (hR.rh.hz b p hb), hR.rh.hbase, fun b p hb => ?_, fun b p hb => ?_, fun p hp => ?_, hR.rh.nodup, hR.rh.gens, hR.rh.os⟩, ?_, fun x v h1 h2 => ?_, fun p hp => ?_, ?_, hfr.put hI⟩
  · by_cases hb' : b = I
    · subst hb'; rw [put_self] at hb; cases hb; exact ⟨o'.slots, e, fun _ => rfl⟩
    · obtain ⟨sl, a, c⟩ := hR.rh.hzs b p (put_le_of hI (put_some hb hb'))
      exact ⟨sl, k _ _ hb' a, c⟩
  · by_cases hb' : b = I
    · subst hb'; exact h0
    · exact hR.rh.disj b p (put_le_of hI (put_some hb hb'))
  · obtain ⟨a, b, c⟩ := hR.rh.hH p hp
    obtain ⟨c1, c2⟩ := put_none c
    exact ⟨a.keep fun o ho => k _ _ c1 ho, b, put_ne c1 c2⟩
  · obtain ⟨m, ⟨ol, es, ep, a, b, c⟩, d⟩ := hR.ns
    exact ⟨m, ⟨ol, es, ep, k _ _ (Ne.symm q2) a, b, c⟩, d⟩
  · obtain ⟨c, val, a, ⟨oc, b1, b2⟩, d⟩ := hR.cells x v h1 h2
    exact ⟨c, val, a, ⟨oc, k _ _ (q4 _ (mem_of_lookup a)) b1, b2⟩, d⟩
  · obtain ⟨⟨ov, oc, b1, b2⟩, b, c, d⟩ := hR.cellsOk p hp
    exact ⟨⟨ov, oc, k _ _ (q4 p hp) b1, b2⟩, b, c.imp (fun c => put_ne (q4 p hp) (put_none c).2) id, d⟩
  · exact ⟨hR.locFree.1, put_ne (Ne.symm q2) (put_none hR.locFree.2.1).2, hR.locFree.2.2⟩
theorem R.unhideC (hR : R C (zs.put I o) σ z s) (hI : zs I = none) (hfr : FrOK C.outer zs) (hs : ∀ ov, o.data ≠ .cell ov) {h' : Heap} {t : Nat} (k : Heap.ExtBut I s.heap h') : R C zs σ z { s with heap := h', toks := t } := by
  obtain ⟨h0, q1, q2, q3, q4⟩ := hR.apartHidC hI hs
  have ne : ∀ b p, z b = some p → b ≠ I := fun b p hb w => by rw [w, h0] at hb; cases hb
  have nes : ∀ b p, zs b = some p → b ≠ I := fun b p hb w => by rw [w, hI] at hb; cases hb
  refine ⟨⟨fun b p hb => k b p (ne b p hb) (hR.rh.hz b p hb), hR.rh.hbase, fun b p hb => ?_, fun b p hb => ?_, fun p hp => ?_, hR.rh.nodup, hR.rh.gens, hR.rh.os⟩, ?_, fun x v h1 h2 => ?_, fun p hp => ?_, ?_, hfr⟩
  · obtain ⟨sl, a, c⟩ := hR.rh.hzs b p (put_le_of hI hb)
    exact ⟨sl, k _ _ (nes b p hb) a, c⟩
  · exact hR.rh.disj b p (put_le_of hI hb)
  · obtain ⟨a, b, c⟩ := hR.rh.hH p hp
    obtain ⟨c1, c2⟩ := put_none c
    exact ⟨a.keep fun o ho => k _ _ c1 ho, b, c2⟩
  · obtain ⟨m, ⟨ol, es, ep, a, b, c⟩, d⟩ := hR.ns
    exact ⟨m, ⟨ol, es, ep, k _ _ (Ne.symm q2) a, b, c⟩, d⟩
  · obtain ⟨c, val, a, ⟨oc, b1, b2⟩, d⟩ := hR.cells x v h1 h2
    exact ⟨c, val, a, ⟨oc, k _ _ (q4 _ (mem_of_lookup a)) b1, b2⟩, d⟩
  · obtain ⟨⟨ov, oc, b1, b2⟩, b, c, d⟩ := hR.cellsOk p hp
    exact ⟨⟨ov, oc, k _ _ (q4 p hp) b1, b2⟩, b, c.imp (fun c => (put_none c).2) id, d⟩
  · exact ⟨hR.locFree.1, (put_none hR.locFree.2.1).2, hR.locFree.2.2⟩
theorem R.unhide (hR : R C (zs.put I o) σ z s) (hI : zs I = none) (hfr : FrOK C.outer zs) (hs : Stays o) {h' : Heap} {t : Nat} (k : Heap.ExtBut I s.heap h') : R C zs σ z { s with heap := h', toks := t } := hR.unhideC hI hfr hs.1 k
end

/-! walking over something -/
def ownIters : List String := ["enumerate", "zip", "dict_itemiterator", "dict_reverseitemiterator", "odict_iterator", "itertools.zip_longest", "itertools.pairwise"]

structure WalkOf (g : Gd) (A : Around) (S : Z → Led → Prop) (vs : List V) (J : Nat → Obj → Prop) : Prop where
  fields : ∀ i o, J i o → ∃ fs, o.data = .fields fs
  cls : ∀ i o, J i o → ∃ T, o.cls = .type T ∧ ownIters.contains T = false
  self : ∀ (s : Shared) I o Q E, J 0 o → s.heap.get? I = some o → Q (.ref I) s → wpAny (model g.prog g.w) A (pyIter (.ref I)) Q E s
  item : ∀ zs z H (s : Shared) I o i v Q E, J i o → vs[i]? = some v → RH g zs H z s → S z H → s.heap.get? I = some o →
    (∀ h' t o' val, h'.get? I = some o' → J (i + 1) o' → Heap.SameBut I s.heap h' → Rep z v val → Q (some val) { s with heap := h', toks := t }) → wpAny (model g.prog g.w) A (pyNext (.ref I)) Q E s
  fin : ∀ zs z H (s : Shared) I o Q E, J vs.length o → RH g zs H z s → S z H → s.heap.get? I = some o →
    (∀ h', Heap.ExtBut I s.heap h' → Q none { s with heap := h' }) → wpAny (model g.prog g.w) A (pyNext (.ref I)) Q E s

structure Walk (C : Cx) (v : V) (vs : List V) (S : Led → Prop) : Prop where
  start : ∀ z₀ x, Rep z₀ v x → ∃ J, (∀ A', A'.handled = none → WalkOf C.g A' (fun z H => Z.le z₀ z ∧ S H) vs J) ∧ ∀ zs z σ (s : Shared) Q E, Z.le z₀ z → R C zs σ z s → S σ.H →
    (∀ o, J 0 o → o.isFreed = false → Q (.ref s.heap.objs.size) { s with heap := s.heap.push o }) → wpAny C.M C.A (pyIter x) Q E s

section
variable {C : Cx}
theorem isList_of {s : Shared} {a : Addr} {items : List Value} {n : Nat} (e : s.heap.get? a = some (lstO items n)) : s.heap.IsList a items.toArray := ⟨_, e, rfl, n, rfl⟩
theorem isTuple_of {s : Shared} {a : Addr} {items : List Value} {n : Nat} (e : s.heap.get? a = some (tupO items n)) : s.heap.IsTuple a items.toArray := ⟨_, e, rfl, n, rfl⟩

/-- the items at the address, as the state tells -/
def ListAt (g : Gd) (a : Addr) (vs : List V) (S : Z → Led → Prop) : Prop := ∀ zs z H (s : Shared), RH g zs H z s → S z H → ∃ items n, s.heap.get? a = some (lstO items n) ∧ RepL z vs items
theorem getRep {z : Z} {vs : List V} {xs : List Value} (r : RepL z vs xs) {i : Nat} {v : V} (h : vs[i]? = some v) : ∃ x, xs.toArray[i]? = some x ∧ Rep z v x := by
  obtain ⟨x, a, b⟩ := r.get h; exact ⟨x, by simpa using a, b⟩
theorem getEnd {z : Z} {vs : List V} {xs : List Value} (r : RepL z vs xs) : xs.toArray[vs.length]? = none := by
  simp [r.length]
theorem walkOf_list {g : Gd} {A : Around} (hA : A.handled = none) {a : Addr} {vs : List V} {S : Z → Led → Prop} (k : ListAt g a vs S) :
    WalkOf g A S vs fun i o => o.cls = .type "list_iterator" ∧ o.data = .fields #[.ref a, .int (i : Int) 0] where
  fields i o h := ⟨_, h.2⟩
  cls i o h := ⟨_, h.1, by decide⟩
  self s I o Q E h e q := wpAny_pyIter_listiter (l := a) (i := 0) ⟨o, e, h.1, h.2⟩ q
  item zs z H s I o i v Q E h hv r st e q := by
    obtain ⟨items, n, e1, rl⟩ := k zs z H s r st
    obtain ⟨x, hx, rx⟩ := getRep rl hv
    refine wpAny_pyNext_list_item (l := a) (i := i) ⟨o, e, h.1, h.2⟩ (isList_of e1) hx fun h' hit hs => ?_
    obtain ⟨o', p1, p2, p3⟩ := hit
    exact q h' s.toks o' x p1 ⟨p2, p3⟩ hs rx
  fin zs z H s I o Q E h r st e q := by
    obtain ⟨items, n, e1, rl⟩ := k zs z H s r st
    exact wpAny_pyNext_list_end hA (l := a) (i := vs.length) ⟨o, e, h.1, h.2⟩ (isList_of e1) (getEnd rl) q
theorem Walk.lst {vs : List V} : Walk C (.lst vs) vs (fun _ => True) where
  start z₀ x r := by
    cases r with
    | @lst _ a items n e hr =>
      refine ⟨_, fun A' hA => walkOf_list hA (a := a) fun zs z H s rh st => ⟨items, n, rh.hz _ _ (st.1 _ _ e), hr.mono st.1⟩, fun zs z σ s Q E hz hR _ q => ?_⟩
      exact wpAny_pyIter_list (isList_of (hR.rh.hz _ _ (hz _ _ e))) (q _ ⟨rfl, rfl⟩ rfl)
theorem Walk.str {l : List Nat} : Walk C (.txt false l) (l.map fun c => .txt false [c]) (fun _ => True) where
  start z₀ x r := by
    cases r with
    | str _ t =>
      have hget : ∀ {i : Nat} {v : V}, (l.map fun c => V.txt false [c])[i]? = some v → ∃ c, l[i]? = some c ∧ v = .txt false [c] := by
        intro i v h
        rw [List.getElem?_map] at h
        cases e : l[i]? with
        | none => rw [e] at h; cases h
        | some c => rw [e] at h; cases h; exact ⟨c, rfl, rfl⟩
      cases ha : (l.toArray).all (· < 128) with
      | true =>
        refine ⟨fun i o => o.cls = .type "str_ascii_iterator" ∧ o.data = .fields #[.str ⟨l.toArray⟩ t, .int (i : Int) 0], fun A' hA => ⟨fun i o h => ⟨_, h.2⟩, fun i o h => ⟨_, h.1, by decide⟩, ?_, ?_, ?_⟩, fun zs z σ s Q E hz hR _ q => ?_⟩
        · exact fun s I o Q E h e q => wpAny_pyIter_striter_ascii (x := ⟨l.toArray⟩) (t := t) (i := 0) ⟨o, e, h.1, h.2⟩ q
        · intro zs z H s I o i v Q E h hv rh st e' q
          obtain ⟨c, hc, rfl⟩ := hget hv
          refine wpAny_pyNext_ascii_item (x := ⟨l.toArray⟩) (t := t) (i := i) (c := c) ⟨o, e', h.1, h.2⟩ (by simpa using hc) fun h' hit hs => ?_
          obtain ⟨o', p1, p2, p3⟩ := hit
          exact q h' _ o' _ p1 ⟨p2, p3⟩ hs (.str [c] _)
        · intro zs z H s I o Q E h rh st e' q
          exact wpAny_pyNext_ascii_end hA (x := ⟨l.toArray⟩) (t := t) ⟨o, e', h.1, h.2⟩ (by simp) q
        · exact wpAny_pyIter_ascii (x := ⟨l.toArray⟩) ha (q _ ⟨rfl, rfl⟩ rfl)
      | false =>
        refine ⟨fun i o => o.cls = .type "str_iterator" ∧ o.data = .fields #[.str ⟨l.toArray⟩ t, .int (i : Int) 0], fun A' hA => ⟨fun i o h => ⟨_, h.2⟩, fun i o h => ⟨_, h.1, by decide⟩, ?_, ?_, ?_⟩, fun zs z σ s Q E hz hR _ q => ?_⟩
        · exact fun s I o Q E h e q => wpAny_pyIter_striter_wide (x := ⟨l.toArray⟩) (t := t) (i := 0) ⟨o, e, h.1, h.2⟩ q
        · intro zs z H s I o i v Q E h hv rh st e' q
          obtain ⟨c, hc, rfl⟩ := hget hv
          refine wpAny_pyNext_wide_item (x := ⟨l.toArray⟩) (t := t) (i := i) (c := c) ⟨o, e', h.1, h.2⟩ (by simpa using hc) fun h' hit hs => ?_
          obtain ⟨o', p1, p2, p3⟩ := hit
          exact q h' _ o' _ p1 ⟨p2, p3⟩ hs (.str [c] _)
        · intro zs z H s I o Q E h rh st e' q
          exact wpAny_pyNext_wide_end hA (x := ⟨l.toArray⟩) (t := t) ⟨o, e', h.1, h.2⟩ (by simp) q
        · exact wpAny_pyIter_wide (x := ⟨l.toArray⟩) ha (q _ ⟨rfl, rfl⟩ rfl)
theorem Walk.bytes {l : List Nat} : Walk C (.txt true l) (l.map fun c : Nat => V.int (c : Int)) (fun _ => True) where
  start z₀ x r := by
    cases r with
    | bytes _ t hl =>
      refine ⟨fun i o => o.cls = .type "bytes_iterator" ∧ o.data = .fields #[.bytes (l.map UInt8.ofNat).toArray t, .int (i : Int) 0], fun A' hA => ⟨fun i o h => ⟨_, h.2⟩, fun i o h => ⟨_, h.1, by decide⟩, ?_, ?_, ?_⟩, fun zs z σ s Q E hz hR _ q => ?_⟩
      · exact fun s I o Q E h e q => PySem.W.KBw.pyIter_self (b := (l.map UInt8.ofNat).toArray) (t := t) (i := 0) ⟨o, e, h.1, h.2⟩ q
      · intro zs z H s I o i v Q E h hv rh st e' q
        rw [List.getElem?_map] at hv
        cases e : l[i]? with
        | none => rw [e] at hv; cases hv
        | some c =>
          rw [e] at hv; cases hv
          refine PySem.W.KBw.next_item (b := (l.map UInt8.ofNat).toArray) (t := t) (i := i) (c := UInt8.ofNat c) ⟨o, e', h.1, h.2⟩ (by simp [e]) fun h' hit hs => ?_
          obtain ⟨o', p1, p2, p3⟩ := hit
          have hc := hl c (List.mem_of_getElem? e)
          have hv : ((UInt8.ofNat c).toNat : Int) = (c : Int) := by simp [Nat.mod_eq_of_lt hc]
          rw [hv]
          exact q h' _ o' _ p1 ⟨p2, p3⟩ hs (.int _ _)
      · intro zs z H s I o Q E h rh st e' q
        exact PySem.W.KBw.next_end hA (b := (l.map UInt8.ofNat).toArray) (t := t) ⟨o, e', h.1, h.2⟩ (by simp) q
      · exact PySem.W.KBw.pyIter_bytes (q _ ⟨rfl, rfl⟩ rfl)
theorem small_range {a b : Int} (h1 : -1152921504606846976 ≤ a) (h2 : a ≤ 1152921504606846976) (h3 : -1152921504606846976 ≤ b) (h4 : b ≤ 1152921504606846976) : Builtin.Range.small a b 1 = true := by
  have hp : (2 : Int) ^ 63 = 9223372036854775808 := by decide
  have hr : 0 ≤ Builtin.Range.rangeSize a b 1 ∧ Builtin.Range.rangeSize a b 1 ≤ 9223372036854775807 := by
    simp only [Builtin.Range.rangeSize, Int.ediv_one]
    repeat' split
    all_goals omega
  obtain ⟨r1, r2⟩ := hr
  have f : ∀ x : Int, -9223372036854775808 ≤ x → x < 9223372036854775808 → Builtin.Range.rangeFitsLong x = true := by
    intro x p q
    unfold Builtin.Range.rangeFitsLong
    rw [hp]; simp [p, q]
  unfold Builtin.Range.small
  rw [f a (by omega) (by omega), f b (by omega) (by omega), f 1 (by omega) (by omega), f _ (by omega) (by omega), if_pos (by decide), f (b + (1 - 1)) (by omega) (by omega)]
  simp
def upTo (a : Int) : Nat → List V
  | 0 => []
  | n + 1 => .int a :: upTo (a + 1) n
end
end PL

end
section
open PySem PySem.Calls PyProof.Rows
set_option Elab.async false
set_option linter.unusedVariables false
set_option linter.unusedSimpArgs false
namespace PL

def Lo (L L' : List (Str × V)) : Prop := ∀ x v, L.lookup x = some v → L'.lookup x = some v
structure Le (σ σ' : St) : Prop where
  loc : Lo σ.loc σ'.loc
  led : σ.H.Sublist σ'.H
theorem Lo.refl (L : List (Str × V)) : Lo L L := fun _ _ h => h
theorem Lo.set {L L' : List (Str × V)} {x : Str} {v : V} (h : Lo L L') : Lo (PL.setL L x v) (PL.setL L' x v) := by
  intro y u e
  rw [lookup_setL] at e ⊢
  by_cases k : y = x
  · rw [if_pos k] at e ⊢; exact e
  · rw [if_neg k] at e ⊢; exact h y u e
theorem Le.refl (σ : St) : Le σ σ := ⟨Lo.refl _, List.Sublist.refl _⟩
theorem TSs.le {C : Cx} {X : XP} {st : List Stmt} {Q : Fl → St → Prop} {σ σ' : St} (k : Le σ' σ) (h : TSs C st Q X σ') : TSs C st Q X σ := h.weaken k.loc k.led
theorem TB.le {C : Cx} {X : XP} {e : Expr} {Q : Bool → St → Prop} {σ σ' : St} (k : Le σ' σ) (h : TB C e Q X σ') : TB C e Q X σ := fun z₀ => (h z₀).weaken k.loc k.led

/-- a target takes a value -/
def TAs (C : Cx) (target : Expr) (v : V) (Q : St → Prop) (X : XP) (σ : St) : Prop := ∀ z₀ x, Rep z₀ v x → TT C z₀ (assign target C.env x) (fun _ _ σ' => Q σ') X σ
theorem TAs.name {C : Cx} {X : XP} {x : Str} {p : Pos} {v : V} {Q : St → Prop} {σ : St} (k : Stores C x) (h : Q ⟨setL σ.loc x v, σ.H⟩) : TAs C (.Name x p) v Q X σ := by
  intro z₀ val r
  rw [PySem.assign_Name]
  exact TT.at_ (TT.store k r fun _ _ => h)

theorem letOwned {M : Model} {A : Around} {E : Value → Shared → Prop} {target : Expr} {I : Addr} {v : Value} {s : Shared} {o : Obj} {Q : Unit → Shared → Prop} (e : s.heap.get? I = some o) (hc : ∃ T, o.cls = .type T ∧ ownIters.contains T = false) (h : Q () s) :
    wpAny M A (letOwnedTupleGo target (.ref I) v) Q E s := by
  obtain ⟨T, hT, hn⟩ := hc
  have go : ∀ a : Addr, wpAny M A (do
      let o ← load I
      match o.cls, o.data with
      | .type n, .fields vs =>
        if ["enumerate", "zip", "dict_itemiterator", "dict_reverseitemiterator", "odict_iterator", "itertools.zip_longest", "itertools.pairwise"].contains n && vs[0]? == some (rawInt a) then
          rule "for.unpacks-the-owned-tuple"
          updateField I 0 .none
      | _, _ => pure ()) Q E s := by
    intro a
    refine wpAny_bind (wpAny_load e ?_)
    rw [hT]
    split
    · rename_i n vs h1 h2
      cases h1
      have : (["enumerate", "zip", "dict_itemiterator", "dict_reverseitemiterator", "odict_iterator", "itertools.zip_longest", "itertools.pairwise"].contains T && vs[0]? == some (rawInt a)) = false := by
        rw [show ["enumerate", "zip", "dict_itemiterator", "dict_reverseitemiterator", "odict_iterator", "itertools.zip_longest", "itertools.pairwise"].contains T = false from hn]; rfl
      rw [this]
      exact wpAny_pure h
    · exact wpAny_pure h
  unfold letOwnedTupleGo
  split
  · cases v with
    | ref a => exact go a
    | _ => exact wpAny_pure h
  · cases v with
    | ref a => exact go a
    | _ => exact wpAny_pure h
  · exact wpAny_pure h

section
variable {C : Cx} {X : XP} {σ : St}

theorem TS.for_ {target iter : Expr} {body orelse : List Stmt} {pos : Pos} {Q : Fl → St → Prop} (hh : C.A.handled = none)
    (h : TE C iter (fun v σ1 => ∃ vs S, Walk C v vs S ∧ ∃ Inv : Nat → St → Prop, Inv 0 σ1 ∧ (∀ i σ, Inv i σ → S σ.H) ∧
      (∀ i u σ, vs[i]? = some u → Inv i σ → TAs C target u (fun σ' => TSs C body (fun f σ'' => match f with | .next => Inv (i + 1) σ'' | .cont => Inv (i + 1) σ'' | .brk => Q .next σ'' | .ret w => Q (.ret w) σ'') X σ') X σ) ∧
      (∀ σ, Inv vs.length σ → TSs C orelse Q X σ)) X σ)
    (hs : ∀ x, foldedSetIterable iter C.env x = pure x := by intro _; rfl) : TS C (.For target iter body orelse pos) Q X σ := by
  intro z₀ zs z s hz hR
  refine wpAny_For ?_ hs
  refine wpAny_mono (h z₀ zs z s hz hR) ?_ fun _ _ x => x
  rintro x s1 ⟨z1, σ1, l1, R1, v, rv, vs, S, W, Inv, i0, iS, turn, fin⟩
  obtain ⟨J, WO, st⟩ := W.start z1 x rv
  have WO := WO C.A hh
  refine st zs z1 σ1 s1 _ _ (Z.le_refl _) R1 (iS _ _ i0) fun o hJ hfr => ?_
  generalize hI : s1.heap.objs.size = I
  have zsI : zs I = none := R1.rh.fresh_zs (Nat.le_of_eq hI)
  have R2 : R C (zs.put I o) σ1 z1 { s1 with heap := s1.heap.push o } := by
    refine (R1.push' o).hideAt ?_ (R1.rh.fresh_z (Nat.le_of_eq hI)) (R1.apart_new (Nat.le_of_eq hI))
    rw [← hI]; exact Heap.get?_push_size _ hfr
  refine codeAny_loop' rfl (fun n s' => ∃ i σ' z' o, n = vs.length - i ∧ i ≤ vs.length ∧ Z.le z1 z' ∧ R C (zs.put I o) σ' z' s' ∧ J i o ∧ Inv i σ') (fun n s' hi => ?_) vs.length ⟨0, σ1, z1, o, rfl, Nat.zero_le _, Z.le_refl _, R2, hJ, i0⟩
  obtain ⟨i, σ', z', o', hn, hile, lz, R', hJ', inv⟩ := hi
  obtain ⟨fs, hfs⟩ := WO.fields _ _ hJ'
  have stay := Stays.fields hfs
  have hat := R'.rh.hidden put_self stay
  show wpAny _ _ ((forTurn target (.ref I) body orelse C.env).onRaise (fun x => do noteFrame x C.env; theTreesLotGoes x)) _ _ s'
  refine wpAny_noted ?_
  simp only [forTurn]
  refine wpAny_bind (wpAny_standAt (wpAny_bind (wpAny_onRaise ?_)))
  rcases Nat.lt_or_ge i vs.length with hlt | hge
  · have hv : vs[i]? = some vs[i] := List.getElem?_eq_getElem hlt
    refine WO.item _ _ _ s' I o' i vs[i] _ _ hJ' hv R'.rh ⟨lz, iS _ _ inv⟩ hat fun h' t o'' val e1 hJ'' hsb rv' => ?_
    have R'' : R C (zs.put I o'') σ' z' { s' with heap := h', toks := t } := R'.iter zsI hR.fr stay hsb.extBut e1
    refine wpAny_bind (letOwned e1 (WO.cls _ _ hJ'') ?_)
    refine wpAny_bind (wpAny_mono (turn i _ σ' hv inv z' val rv' _ _ _ (Z.le_refl _) R'') ?_ fun _ _ x => x.absurd)
    rintro ⟨⟩ s3 ⟨z3, σ3, l3, R3, k3⟩
    refine wpAny_bind (wpAny_mono (k3 z3 _ _ _ (Z.le_refl _) R3) ?_ fun _ _ x => x.absurd)
    rintro f s4 ⟨z4, σ4, l4, R4, fl, rf, k4⟩
    have lz' := Z.le_trans (Z.le_trans lz l3) l4
    obtain ⟨fs', hfs'⟩ := WO.fields _ _ hJ''
    have again : Inv (i + 1) σ4 → ∃ m, m < n ∧ ∃ i σ' z' o, m = vs.length - i ∧ i ≤ vs.length ∧ Z.le z1 z' ∧ R C (zs.put I o) σ' z' s4 ∧ J i o ∧ Inv i σ' :=
      fun k4 => ⟨vs.length - (i + 1), by omega, i + 1, σ4, z4, o'', rfl, by omega, lz', R4, hJ'', k4⟩
    have out := R4.unhide zsI hR.fr (Stays.fields hfs') (t := s4.toks) (h' := s4.heap) fun b o _ e => e
    cases rf with
    | next => exact wpAny_pure (.inl ⟨rfl, again k4⟩)
    | cont => exact wpAny_pure (.inl ⟨rfl, again k4⟩)
    | brk => exact wpAny_pure ⟨z4, σ4, Z.le_trans l1 lz', out, .next, .next, k4⟩
    | ret rw' => exact wpAny_pure ⟨z4, σ4, Z.le_trans l1 lz', out, .ret _, .ret rw', k4⟩
  · have he : i = vs.length := by omega
    subst he
    refine WO.fin _ _ _ s' I o' _ _ hJ' R'.rh ⟨lz, iS _ _ inv⟩ hat fun h' hx => ?_
    refine wpAny_pure (.inr ⟨rfl, codeAny_block ?_⟩)
    have R'' : R C zs σ' z' { s' with heap := h' } := R'.unhide zsI hR.fr stay hx
    refine wpAny_mono (fin σ' inv z' zs z' _ (Z.le_refl _) R'') ?_ fun _ _ x => x.absurd
    rintro f s4 ⟨z4, σ4, l4, R4, q⟩
    exact ⟨z4, σ4, Z.le_trans l1 (Z.le_trans lz l4), R4, q⟩

theorem TS.while_ {test : Expr} {body orelse : List Stmt} {pos : Pos} {Q : Fl → St → Prop} (Inv : Nat → St → Prop) (n : Nat) (i0 : Inv n σ)
    (turn : ∀ n σ, Inv n σ → TB C test (fun b σ' => if b then TSs C body (fun f σ'' => match f with | .next => ∃ m, m < n ∧ Inv m σ'' | .cont => ∃ m, m < n ∧ Inv m σ'' | .brk => Q .next σ'' | .ret w => Q (.ret w) σ'') X σ' else TSs C orelse Q X σ') X σ) :
    TS C (.While test body orelse pos) Q X σ := by
  intro z₀ zs z s hz hR
  refine wpAny_While ?_
  refine codeAny_whileLoop (fun n s' => ∃ σ' z', Z.le z z' ∧ R C zs σ' z' s' ∧ Inv n σ') (fun n s' hi => ?_) n ⟨σ, z, Z.le_refl _, hR, i0⟩
  obtain ⟨σ', z', lz, R', inv⟩ := hi
  refine wpAny_mono (turn n σ' inv z' zs z' s' (Z.le_refl _) R') ?_ fun _ _ x => x.absurd
  rintro b s2 ⟨z2, σ2, l2, R2, k⟩
  cases b with
  | true =>
    refine wpAny_mono (k z2 zs z2 s2 (Z.le_refl _) R2) ?_ fun _ _ x => x.absurd
    rintro f s4 ⟨z4, σ4, l4, R4, fl, rf, k4⟩
    have lz' := Z.le_trans (Z.le_trans lz l2) l4
    cases rf with
    | next => obtain ⟨m, hm, i⟩ := k4; exact ⟨m, hm, σ4, z4, lz', R4, i⟩
    | cont => obtain ⟨m, hm, i⟩ := k4; exact ⟨m, hm, σ4, z4, lz', R4, i⟩
    | brk => exact ⟨z4, σ4, lz', R4, .next, .next, k4⟩
    | ret rw' => exact ⟨z4, σ4, lz', R4, .ret _, .ret rw', k4⟩
  | false =>
    refine wpAny_mono (k z2 zs z2 s2 (Z.le_refl _) R2) ?_ fun _ _ x => x.absurd
    rintro f s4 ⟨z4, σ4, l4, R4, q⟩
    exact ⟨z4, σ4, Z.le_trans (Z.le_trans lz l2) l4, R4, q⟩
end
end PL

end
section
open PySem PySem.Calls PyProof.Rows
set_option Elab.async false
set_option linter.unusedVariables false
set_option linter.unusedSimpArgs false
namespace PL

def relabelS (scope sc : Scope) : Scope :=
  { scope with names := scope.names.map fun (n, k) => if (k == .free && sc.kind == .function && sc.names.lookup n == some .cell) then (n, .cell) else (n, k) }
theorem relabel_eq {scope sc : Scope} {env : Env} (h : env.scope = sc) : relabel scope env = relabelS scope sc := by subst h; rfl

/-- the cells that a comprehension takes over -/
def closOf : List (Str × NameKind) → List (Str × Addr) → List (Str × Addr) → List (Str × Addr)
  | [], _, acc => acc
  | (n, k) :: r, cells, acc => closOf r cells (if k == .free then (n, (cells.lookup n).getD 0) :: acc else acc)
theorem closureFor_closOf {scope : Scope} {env : Env} (h : ∀ x ∈ scope.names, x.2 = .free → ∃ c, env.cells.lookup x.1 = some c) : closureFor scope env = pure (closOf scope.names env.cells []) := by
  unfold closureFor
  have key : ∀ (l : List (Str × NameKind)) (acc : List (Str × Addr)), (∀ x ∈ l, x.2 = .free → ∃ c, env.cells.lookup x.1 = some c) →
      (forIn l acc fun x r => match x with | (name, kind) => if kind == .free then do let a ← cellOf env name; pure (ForInStep.yield ((name, a) :: r)) else pure (ForInStep.yield r) : Sem _) = pure (closOf l env.cells acc) := by
    intro l
    induction l with
    | nil => intro acc _; rfl
    | cons y r ih =>
      intro acc hl
      obtain ⟨n, k⟩ := y
      rw [List.forIn_cons]
      cases hk : (k == NameKind.free) with
      | true =>
        obtain ⟨c, hc⟩ := hl (n, k) List.mem_cons_self (by simpa using hk)
        have : cellOf env n = pure c := by unfold cellOf; rw [hc]
        simp only [hk, if_true, this, pure_bind]
        rw [ih _ fun x hx => hl x (List.mem_cons_of_mem _ hx)]
        simp [closOf, hk, hc]
      | false =>
        simp only [hk, Bool.false_eq_true, if_false, pure_bind]
        rw [ih _ fun x hx => hl x (List.mem_cons_of_mem _ hx)]
        simp [closOf, hk]
  have := key scope.names [] h
  simp only [bind_pure]
  exact this
theorem closOf_mem : ∀ (l : List (Str × NameKind)) (cells acc : List (Str × Addr)) (p : Str × Addr), p ∈ closOf l cells acc → p ∈ acc ∨ ((p.1, NameKind.free) ∈ l ∧ p.2 = (cells.lookup p.1).getD 0)
  | [], _, _, _, h => .inl h
  | (n, k) :: r, cells, acc, p, h => by
    unfold closOf at h
    rcases closOf_mem r cells _ p h with q | ⟨h1, h2⟩
    · cases hk : (k == NameKind.free) with
      | true =>
        rw [hk, if_pos rfl] at q
        have hk : k = .free := by simpa using hk
        subst hk
        rcases List.mem_cons.mp q with q | q
        · subst q; exact .inr ⟨List.mem_cons_self, rfl⟩
        · exact .inl q
      | false =>
        rw [hk, if_neg (by decide)] at q
        exact .inl q
    · exact .inr ⟨List.mem_cons_of_mem _ h1, h2⟩
theorem closOf_keep : ∀ (l : List (Str × NameKind)) (cells acc : List (Str × Addr)) (x : Str) (c : Addr), acc.lookup x = some c → x ∉ l.map (·.1) → (closOf l cells acc).lookup x = some c
  | [], _, _, _, _, h, _ => h
  | (n, k) :: r, cells, acc, x, c, h, hn => by
    rw [List.map_cons, List.mem_cons, not_or] at hn
    unfold closOf
    refine closOf_keep r cells _ x c ?_ hn.2
    split
    · rw [List.lookup_cons, beq_eq_false_iff_ne.mpr hn.1]; exact h
    · exact h
theorem closOf_lookup : ∀ (l : List (Str × NameKind)) (cells acc : List (Str × Addr)) (x : Str) (c : Addr), (l.map (·.1)).Nodup → (x, NameKind.free) ∈ l → cells.lookup x = some c → (closOf l cells acc).lookup x = some c
  | [], _, _, _, _, _, h, _ => by cases h
  | (n, k) :: r, cells, acc, x, c, hn, h, hc => by
    rw [List.map_cons, List.nodup_cons] at hn
    unfold closOf
    rcases List.mem_cons.mp h with h | h
    · cases h
      refine closOf_keep r cells _ _ c ?_ hn.1
      simp [hc]
    · exact closOf_lookup r cells _ x c hn.2 h hc
theorem closOf_pair : ∀ (l : List (Str × NameKind)) (cells acc : List (Str × Addr)), (l.map (·.1)).Nodup → acc.Pairwise (fun x y => x.1 ≠ y.1) → (∀ p ∈ acc, p.1 ∉ l.map (·.1)) → (closOf l cells acc).Pairwise (fun x y => x.1 ≠ y.1)
  | [], _, _, _, h, _ => h
  | (n, k) :: r, cells, acc, hn, h, hd => by
    rw [List.map_cons, List.nodup_cons] at hn
    unfold closOf
    refine closOf_pair r cells _ hn.2 ?_ ?_
    · split
      · refine List.pairwise_cons.mpr ⟨fun p hp e => hd p hp ?_, h⟩
        rw [List.map_cons, ← e]; exact List.mem_cons_self
      · exact h
    · intro p hp
      split at hp
      · rcases List.mem_cons.mp hp with e | hp
        · subst e; exact hn.1
        · exact fun q => hd p hp (by rw [List.map_cons]; exact List.mem_cons_of_mem _ q)
      · exact fun q => hd p hp (by rw [List.map_cons]; exact List.mem_cons_of_mem _ q)

section
variable {C : Cx} {zs z : Z} {σ : St} {s : Shared} {I : Addr} {o o' : Obj}
theorem RH.hideAt {g : Gd} {H : Led} (r : RH g zs H z s) (e : s.heap.get? I = some o) (h0 : z I = none) (h1 : zs I = none) (h2 : I ∉ H.map (·.1)) : RH g (zs.put I o) H z s where
  hz := r.hz
  hbase := r.hbase
  hzs b p h := by
    by_cases hb : b = I
    · subst hb; rw [put_self] at h; cases h; exact ⟨o.slots, e, fun _ => rfl⟩
    · exact r.hzs b p (put_some h hb)
  disj b p h := by
    by_cases hb : b = I
    · subst hb; exact h0
    · exact r.disj b p (put_some h hb)
  hH p hp := let ⟨a, b, c⟩ := r.hH p hp; ⟨a, b, put_ne (fun w => h2 (w ▸ List.mem_map_of_mem (f := (·.1)) hp)) c⟩
  nodup := r.nodup
  gens := r.gens
  os := r.os
theorem RH.unhide {g : Gd} {H : Led} (r : RH g (zs.put I o) H z s) (h1 : zs I = none) : RH g zs H z s where
  hz := r.hz
  hbase := r.hbase
  hzs b p h := r.hzs b p (put_le_of h1 h)
  disj b p h := r.disj b p (put_le_of h1 h)
  hH p hp := let ⟨a, b, c⟩ := r.hH p hp; ⟨a, b, (put_none c).2⟩
  nodup := r.nodup
  gens := r.gens
  os := r.os
theorem Z.put_comm {a b : Addr} (h : a ≠ b) (p q : Obj) : (zs.put a p).put b q = (zs.put b q).put a p := by
  funext c
  unfold Z.put
  by_cases h1 : c = b
  · subst h1; rw [if_pos rfl, if_neg (Ne.symm h), if_pos rfl]
  · rw [if_neg h1]
    by_cases h2 : c = a
    · rw [if_pos h2, if_pos h2]
    · rw [if_neg h2, if_neg h2, if_neg h1]

theorem R.frames (hR : R C zs σ z s) : ∃ fr, C.A.frames = some fr ∧ ∀ h : Heap, (∀ b o, s.heap.get? b = some o → h.get? b = some o) → FrOK fr (hid C zs h) := by
  have ho : ∀ h : Heap, (∀ b o, s.heap.get? b = some o → h.get? b = some o) → FrOK C.outer (hid C zs h) := by
    intro h hk
    refine ⟨fun e he => ?_⟩
    obtain ⟨a, L, o, b, c, d⟩ := hR.fr.ok e he
    have c' := hid_of hR c
    refine ⟨a, L, o, b, ?_, d⟩
    unfold hid at c' ⊢
    split at c'
    · rename_i hc; rw [if_pos hc]; exact hk _ _ c'
    · rename_i hc; rw [if_neg hc]; exact c'
  rcases C.hframes with ⟨a, b⟩ | a
  · refine ⟨_, a, fun h hk => ⟨fun e he => ?_⟩⟩
    rcases List.mem_cons.mp he with rfl | he
    · obtain ⟨m, ⟨oL, es, ep, hL, hdt, _⟩, _⟩ := hR.ns
      refine ⟨by rw [C.hk]; decide, _, oL, b, ?_, fun vs => by rw [hdt]; intro e; cases e⟩
      unfold hid; rw [if_pos (.inl rfl)]; exact hk _ _ hL
    · exact (ho h hk).ok e he
  · exact ⟨_, a, ho⟩
end

def TIfs (C : Cx) (ifs : List Expr) (Q : Bool → St → Prop) (X : XP) (σ : St) : Prop := ∀ z₀, TT C z₀ (forIn ifs true fun c r => if r = true then do let ok ← isTrue c C.env (eval c C.env); pure (ForInStep.yield ok) else pure (ForInStep.yield r)) (fun _ b σ' => Q b σ') X σ
theorem TIfs.nil {C : Cx} {X : XP} {σ : St} {Q : Bool → St → Prop} (h : Q true σ) : TIfs C [] Q X σ := fun z₀ => TT.pure fun _ _ => h
/-- what one turn of a list comprehension adds -/
def CTurn (C : Cx) (target : Expr) (ifs : List Expr) (elt : Expr) (u : V) (out : Option V) (X : XP) (σ : St) : Prop :=
  TAs C target u (fun σ1 => TIfs C ifs (fun ok σ2 => if ok then TE C elt (fun v σ3 => out = some v ∧ Le σ σ3) X σ2 else out = none ∧ Le σ σ2) X σ1) X σ

def addO (l : List V) : Option V → List V
  | none => l
  | some v => l ++ [v]

structure CompOK (scope sc : Scope) : Prop where
  kind : scope.kind = .function
  nocell : ∀ x ∈ scope.names, x.2 ≠ .cell
  nodup : (scope.names.map (·.1)).Nodup
  free : ∀ x ∈ scope.names, x.2 = .free → sc.names.lookup x.1 = some .cell
  out : sc.kind = .function

theorem lookup_of_nodup {α β : Type} [BEq α] [LawfulBEq α] : ∀ {l : List (α × β)} {p : α × β}, (l.map (·.1)).Nodup → p ∈ l → l.lookup p.1 = some p.2
  | [], _, _, h => by cases h
  | (k, c) :: r, p, hn, h => by
    rw [List.map_cons, List.nodup_cons] at hn
    rw [List.lookup_cons]
    rcases List.mem_cons.mp h with e | h
    · subst e; simp
    · have : (p.1 == k) = false := beq_eq_false_iff_ne.mpr fun e => hn.1 (e ▸ List.mem_map_of_mem (f := (·.1)) h)
      rw [this]; exact lookup_of_nodup hn.2 h
theorem mem_of_lookup' {α β : Type} [BEq α] [LawfulBEq α] : ∀ {l : List (α × β)} {x : α} {b : β}, l.lookup x = some b → (x, b) ∈ l
  | [], _, _, h => by cases h
  | (k, c) :: r, x, b, h => by
    rw [List.lookup_cons] at h
    cases e : (x == k) with
    | true => rw [e] at h; cases h; rw [eq_of_beq e]; exact List.mem_cons_self
    | false => rw [e] at h; exact List.mem_cons_of_mem _ (mem_of_lookup' h)
theorem relabel_keys (scope sc : Scope) : (relabelS scope sc).names.map (·.1) = scope.names.map (·.1) := by
  unfold relabelS
  simp only [List.map_map]
  refine List.map_congr_left fun x _ => ?_
  obtain ⟨n, k⟩ := x
  simp only [Function.comp]
  split <;> rfl
theorem relabel_cell {scope sc : Scope} (K : CompOK scope sc) {x : Str} (h : (relabelS scope sc).names.lookup x = some .cell) : (x, NameKind.free) ∈ scope.names := by
  have := mem_of_lookup' h
  unfold relabelS at this
  obtain ⟨⟨n, k⟩, hp, e⟩ := List.mem_map.mp this
  simp only at e
  split at e
  · rename_i hc
    cases e
    simp only [Bool.and_eq_true, beq_iff_eq] at hc
    rw [← hc.1.1]; exact hp
  · cases e
    exact absurd rfl (K.nocell _ hp)
end PL

end
section
open PySem PySem.Calls PyProof.Rows
set_option Elab.async false
set_option linter.unusedVariables false
set_option linter.unusedSimpArgs false
namespace PL

theorem relabel_free {scope sc : Scope} (K : CompOK scope sc) {x : Str} (h : (x, NameKind.free) ∈ scope.names) : (relabelS scope sc).names.lookup x = some .cell := by
  have hm : (x, NameKind.cell) ∈ (relabelS scope sc).names := by
    unfold relabelS
    refine List.mem_map.mpr ⟨(x, .free), h, ?_⟩
    simp [K.out, K.free _ h rfl]
  exact lookup_of_nodup (p := (x, NameKind.cell)) (by rw [relabel_keys]; exact K.nodup) hm

theorem filterMap_take {α : Type} (f : α → Option V) (xs : List α) (i : Nat) (x : α) (h : xs[i]? = some x) : (xs.take (i + 1)).filterMap f = addO ((xs.take i).filterMap f) (f x) := by
  rw [List.take_add_one, h, List.filterMap_append]
  cases e : f x <;> simp [addO, e]

section
variable {C : Cx} {X : XP} {σ : St}

theorem TT.compCore {g : Gd} {n : Nat} {sc scope : Scope} {elt target iter : Expr} {ifs : List Expr} {pos : Pos} {z₀ : Z} {Q : Z → Value → St → Prop} {use : Option (Value → Sem Unit)} (hIn : In C g n sc) (K : CompOK scope sc)
    (h : TE C iter (fun v σ1 => ∃ (α : Type) (xs : List α) (φ : α → V) (f : α → Option V) (L : List (Str × V)) (H0 : Led) (S : Led → Prop),
      Walk C v (xs.map φ) S ∧ (∀ H', H0.Sublist H' → S H') ∧ H0.Sublist σ1.H ∧ (∀ x u, L.lookup x = some u → σ1.loc.lookup x = some u ∧ (x, NameKind.free) ∈ scope.names) ∧ xs.length ≤ 16777216 ∧
      (∀ C', In C' g n (relabelS scope sc) → ∀ x ∈ xs, CTurn C' target ifs elt (φ x) (f x) X ⟨L, H0⟩) ∧
      (∀ zs' z' s' a items k Lc oL, R C (zs'.put Lc oL) ⟨σ1.loc, H0⟩ z' s' → zs' Lc = none → FrOK C.outer zs' → (∀ ov, oL.data ≠ .cell ov) → (∃ m, s'.heap.Ns Lc m) → s'.heap.get? Lc = some oL → s'.heap.get? a = some (lstO items k) → z' a = none → Apart C (zs'.put Lc oL) ⟨σ1.loc, H0⟩ a → RepL z' (xs.filterMap f) items →
        ∀ (Qf : Value → Shared → Prop) E, (∀ v s'' z'' σ'', Z.le z' z'' → R C zs' σ'' z'' s'' → Q z'' v σ'' → Qf v s'') → compPost C.M C.A E use Qf (.ref a) Lc (.ok .next) s')) X σ)
    (hs : ∀ x, foldedSetIterable iter C.env x = Pure.pure x := by intro _; rfl) : TT C z₀ (comprehension (.ListComp elt [⟨target, iter, ifs, 0⟩] scope pos) scope C.env (firstIterPos [⟨target, iter, ifs, 0⟩] pos) (newList []) (firstAsync [⟨target, iter, ifs, 0⟩]) (firstIter [⟨target, iter, ifs, 0⟩] C.env) use) Q X σ := by
  intro zs z s hz hR
  have hclo : ∀ x ∈ scope.names, x.2 = .free → ∃ c, C.env.cells.lookup x.1 = some c := fun x hx hf => hIn.cell _ (K.free x hx hf)
  have hnames : ∀ x ∈ scope.names, x.2 = .local → scope.names.lookup x.1 = some .local := fun x hx hl => by rw [← hl]; exact lookup_of_nodup K.nodup hx
  refine wpAny_comprehension_free (g := ⟨target, iter, ifs, 0⟩) (gs := []) rfl hs (closureFor_closOf hclo) K.kind hnames ?_
  show wpAny _ _ (eval iter C.env) _ _ s
  refine wpAny_mono (h z₀ zs z s hz hR) ?_ fun _ _ x => x
  rintro x s1 ⟨z1, σ1, l1, R1, v, rv, α, xs, φ, f, L, H0, S, W, hS, hH0, hL, hlen, turn, fin⟩
  obtain ⟨J, WO, st⟩ := W.start z1 x rv
  have WO := WO C.A hIn.calm
  refine st zs z1 σ1 s1 _ _ (Z.le_refl _) R1 (hS _ hH0) fun o hJ hfr => ?_
  refine wpAny_newList ?_ (by simp)
  refine wpAny_newFunctionEnv K.nocell (by intro x hx; simp at hx) (fun h4 hns hsb => ?_) K.kind
  have szI : (s1.heap.push o).objs.size = s1.heap.objs.size + 1 := Heap.size_push ..
  have szD : ((s1.heap.push o).push { cls := .type "list", data := .seq ([] : List Value).toArray }).objs.size = s1.heap.objs.size + 2 := by rw [Heap.size_push, szI]
  dsimp only at hns hsb ⊢
  rw [szD] at hns hsb ⊢
  rw [szI]
  have lo : ∀ b o', b < s1.heap.objs.size + 2 → ((s1.heap.push o).push { cls := .type "list", data := .seq ([] : List Value).toArray }).get? b = some o' → h4.get? b = some o' := fun b o' hb e =>
    (hsb.2 b (Nat.ne_of_lt hb)).trans (Heap.get?_push_of_some _ e)
  have eI : h4.get? s1.heap.objs.size = some o := lo _ _ (by omega) (Heap.get?_push_of_some _ (Heap.get?_push_size _ hfr))
  have eD : h4.get? (s1.heap.objs.size + 1) = some (lstO [] 0) := lo _ _ (by omega) (by have := Heap.get?_push_size (h := s1.heap.push o) (o := lstO [] 0) rfl; rw [szI] at this; exact this)
  have old : ∀ b o', s1.heap.get? b = some o' → h4.get? b = some o' := fun b o' e => lo _ _ (Nat.lt_of_lt_of_le (Heap.lt_size e) (Nat.le_add_right _ 2)) (Heap.get?_push_of_some _ (Heap.get?_push_of_some _ e))
  have fz : ∀ a, s1.heap.objs.size ≤ a → z1 a = none := fun a ha => R1.rh.fresh_z ha
  have fa : ∀ a, s1.heap.objs.size ≤ a → Apart C zs ⟨σ1.loc, H0⟩ a := fun a ha => let ⟨a1, a2, a3, a4⟩ := R1.apart_new ha; ⟨a1, a2, fun e => a3 ((hH0.map _).subset e), a4⟩
  have R4 : R C zs ⟨σ1.loc, H0⟩ z1 { s1 with heap := h4, toks := s1.toks + ([] : List (Str × Value)).length } := (R1.grow old).weaken (fun _ _ h => h) hH0
  generalize hs4 : ({ s1 with heap := h4, toks := s1.toks + ([] : List (Str × Value)).length } : Shared) = s4 at R4 ⊢
  have hh4 : s4.heap = h4 := by rw [← hs4]
  generalize hLc : s1.heap.objs.size + 2 = Lc at *
  generalize hD : s1.heap.objs.size + 1 = D at *
  generalize hI : s1.heap.objs.size = I at *
  have hID : I ≠ D := by omega
  have hIL : Lc ≠ I := by omega
  have hDL : Lc ≠ D := by omega
  obtain ⟨fr, hfrA, hfrOK⟩ := R4.frames
  have fr0 : FrOK fr (hid C zs s4.heap) := hfrOK _ fun _ _ e => e
  have hidn : ∀ a, I ≤ a → hid C zs s4.heap a = none := fun a ha => by
    obtain ⟨a1, a2, a3, a4⟩ := fa a ha
    exact hid_none a2 (fun e => by obtain ⟨p, hp, e⟩ := List.mem_map.mp e; exact a4 p hp e) a1
  have r0 := R4.hide
  have rI := r0.hideAt (by rw [hh4]; exact eI) (fz I (Nat.le_refl _)) (hidn I (Nat.le_refl _)) (fa I (Nat.le_refl _)).2.2.1
  have rD := rI.hideAt (by rw [hh4]; exact eD) (fz D (by omega)) (put_ne (Ne.symm hID) (hidn D (by omega))) (fa D (by omega)).2.2.1
  let C' : Cx := {
    g := C.g, A := C.A, env := compEnvC scope (closOf scope.names C.env.cells []) Lc C.env, outer := fr, n := C.n
    ro := scope.names.map (·.1)
    hk := K.kind
    hglob := C.hglob, hbuilt := C.hbuilt, hdep := C.hdep, hunits := C.hunits, hframes := .inr hfrA
    apart := by
      have hp := closOf_pair scope.names C.env.cells [] K.nodup List.Pairwise.nil (fun _ h => by cases h)
      have hmem : ∀ p ∈ closOf scope.names C.env.cells [], p ∈ C.env.cells := by
        intro p hp
        rcases closOf_mem _ _ _ p hp with h | ⟨h1, h2⟩
        · cases h
        · obtain ⟨c, hc⟩ := hclo _ h1 rfl
          have hc : C.env.cells.lookup p.1 = some c := hc
          rw [hc] at h2
          have := mem_of_lookup' hc
          have e : p = (p.1, c) := by rw [← show p.2 = c from h2]
          rw [e]; exact this
      have : ∀ l : List (Str × Addr), l.Pairwise (fun x y => x.1 ≠ y.1) → (∀ p ∈ l, p ∈ C.env.cells) → l.Pairwise (fun x y => x.2 ≠ y.2) := by
        intro l hl hm
        refine List.Pairwise.imp_of_mem ?_ hl
        intro a b ha hb hab e
        refine hab (name_of_addr C.apart (c := b.2) ?_ (hm b hb))
        rw [← e]; exact hm a ha
      exact this _ hp hmem }
  have hcell' : ∀ p ∈ closOf scope.names C.env.cells [], (p.1, NameKind.free) ∈ scope.names ∧ p ∈ C.env.cells := by
    intro p hp
    rcases closOf_mem _ _ _ p hp with h | ⟨h1, h2⟩
    · cases h
    · obtain ⟨c, hc⟩ := hclo _ h1 rfl
      have hc : C.env.cells.lookup p.1 = some c := hc
      rw [hc] at h2
      have := mem_of_lookup' hc
      have e : p = (p.1, c) := by rw [← show p.2 = c from h2]
      exact ⟨h1, by rw [e]; exact this⟩
  have hIn' : In C' g n (relabelS scope sc) := ⟨hIn.g, hIn.n, fun x => by show (relabel scope C.env).names.lookup x = _; rw [relabel_eq hIn.fn], fun x hx => by
      have hm := relabel_cell K hx
      obtain ⟨c, hc⟩ := hclo _ hm rfl
      exact ⟨c, closOf_lookup _ _ _ _ _ K.nodup hm hc⟩, hIn.calm, relabel_eq hIn.fn, hIn.gl⟩
  have cellNe : ∀ p ∈ C.env.cells, p.2 < I := by
    intro p hp
    obtain ⟨⟨ov, ic⟩, _⟩ := R1.cellsOk p hp
    exact hI ▸ ic.lt
  have kindL : ∀ x u, L.lookup x = some u → C'.env.kindOf x = some .cell := fun x u hx => by
    rw [hIn'.kind]; exact relabel_free K (hL x u hx).2
  have R0 : R C' (((hid C zs s4.heap).put I o).put D (lstO [] 0)) ⟨L, H0⟩ z1 s4 := by
    refine ⟨rD, ⟨_, by rw [hh4]; exact hns, fun x u hx hk => ?_⟩, fun x u hx hk => ?_, fun p hp => ?_, ⟨fz _ (by show I ≤ Lc; omega), put_ne hDL (put_ne hIL (hidn Lc (by omega))), (fa Lc (by omega)).2.2.1⟩, ?_⟩
    · rw [kindL x u hx] at hk; cases hk
    · obtain ⟨h1, h2⟩ := hL x u hx
      have hk1 : C.env.kindOf x = some .cell := (hIn.kind x).trans (K.free _ h2 rfl)
      obtain ⟨c, val, e1, e2, e3⟩ := R4.cells x u h1 (by rw [hk1]; rfl)
      exact ⟨c, val, closOf_lookup _ _ _ _ _ K.nodup h2 e1, e2, e3⟩
    · obtain ⟨h1, h2⟩ := hcell' p hp
      obtain ⟨a, b, _, d, e⟩ := R4.cellsOk p h2
      exact ⟨a, b, .inr (List.mem_map_of_mem (f := (·.1)) h1), Nat.ne_of_lt (Nat.lt_of_lt_of_le (cellNe p h2) (show I ≤ Lc by omega)), e⟩
    · exact (fr0.put (hidn I (Nat.le_refl _))).put (put_ne (Ne.symm hID) (hidn D (by omega)))
  have hI0 := hidn I (Nat.le_refl _)
  have hD0 := hidn D (by omega)
  have loop : codeAny C.M C.A (.compLoop (.ListComp elt [⟨target, iter, ifs, 0⟩] scope pos) 0 (.ref I) (.ref D) C'.env)
      (compPost C.M C.A (PX C zs z X) use (fun a s' => ∃ z' σ', Z.le z z' ∧ R C zs σ' z' s' ∧ Q z' a σ') (.ref D) Lc) s4 := by
    refine codeAny_loop rfl (fun m s' => ∃ i z' σ' o items k, m = xs.length - i ∧ i ≤ xs.length ∧ Z.le z1 z' ∧ R C' (((hid C zs s4.heap).put I o).put D (lstO items k)) σ' z' s' ∧ Le ⟨L, H0⟩ σ' ∧ J i o ∧ RepL z' ((xs.take i).filterMap f) items)
      (fun m s' hi => ?_) xs.length ⟨0, z1, _, o, [], 0, rfl, Nat.zero_le _, Z.le_refl _, R0, Le.refl _, hJ, by simpa using RepL.nil⟩
    obtain ⟨i, z', σ', o', items, k, hm, hile, lz, R', le', hJ', rl⟩ := hi
    obtain ⟨fs, hfs⟩ := WO.fields _ _ hJ'
    have stay := Stays.fields hfs
    show wpAny _ _ ((compTurn (.ListComp elt [⟨target, iter, ifs, 0⟩] scope pos) 0 (.ref I) (.ref D) C'.env).onRaise (fun x => do noteFrame x C'.env; theTreesLotGoes x)) _ _ s'
    refine wpAny_noted ?_
    rw [compTurn_list]
    have R1' : R C' (((hid C zs s4.heap).put D (lstO items k)).put I o') σ' z' s' := by rw [Z.put_comm (Ne.symm hID)]; exact R'
    have hat := R1'.rh.hidden put_self stay
    refine wpAny_bind (wpAny_standAt (wpAny_bind ?_))
    rcases Nat.lt_or_ge i xs.length with hlt | hge
    · have hx : xs[i]? = some xs[i] := List.getElem?_eq_getElem hlt
      have hv : (xs.map φ)[i]? = some (φ xs[i]) := by rw [List.getElem?_map, hx]; rfl
      refine WO.item _ _ _ s' I o' i _ _ _ hJ' hv R1'.rh ⟨lz, hS _ le'.led⟩ hat fun h' t o'' val e1 hJ'' hsb rv' => ?_
      have R2 := (R1'.iter (put_ne hID hI0) (fr0.put hD0) stay hsb.extBut e1 (t := t)).weaken (σ' := ⟨L, H0⟩) le'.loc le'.led
      refine wpAny_bind (letOwned e1 (WO.cls _ _ hJ'') ?_)
      refine wpAny_bind (wpAny_mono (turn C' hIn' _ (List.getElem_mem hlt) z' val rv' _ _ _ (Z.le_refl _) R2) ?_ fun _ _ x => x.absurd)
      rintro ⟨⟩ s3 ⟨z3, σ3, l3, R3, k3⟩
      refine wpAny_bind (wpAny_mono (k3 z3 _ _ _ (Z.le_refl _) R3) ?_ fun _ _ x => x.absurd)
      rintro ok s5 ⟨z5, σ5, l5, R5, k5⟩
      obtain ⟨fs', hfs'⟩ := WO.fields _ _ hJ''
      cases ok with
      | false =>
        obtain ⟨hout, hle⟩ := k5
        refine wpAny_pure ⟨rfl, xs.length - (i + 1), by omega, i + 1, z5, σ5, o'', items, k, rfl, by omega, Z.le_trans lz (Z.le_trans l3 l5), ?_, hle, hJ'', ?_⟩
        · rw [Z.put_comm hID]; exact R5
        · rw [filterMap_take f xs i _ hx, hout]; exact rl.mono (Z.le_trans l3 l5)
      | true =>
        refine wpAny_bind (wpAny_bind (wpAny_mono (k5 z5 _ _ _ (Z.le_refl _) R5) ?_ fun _ _ x => x.absurd))
        rintro y s6 ⟨z6, σ6, l6, R6, u, ru, hout, hle⟩
        have R6' : R C' (((hid C zs s4.heap).put I o'').put D (lstO items k)) σ6 z6 s6 := by rw [Z.put_comm hID]; exact R6
        have hatD := R6'.rh.hidden put_self (Stays.list items k)
        refine wpAny_bind (wpAny_list_append_plain (l := D) (items := items.toArray) ⟨k, hatD⟩ (fun h'' hpl hsb' => ?_) ?_)
        · obtain ⟨k', hk'⟩ := hpl
          have e2 : h''.get? D = some (lstO (items ++ [y]) k') := by rw [hk']; simp [lstO]
          have R7 := R6'.iter (o' := lstO (items ++ [y]) k') (put_ne (Ne.symm hID) hD0) (fr0.put hI0) (Stays.list items k) hsb'.extBut e2 (t := s6.toks)
          refine wpAny_pure (wpAny_pure ⟨rfl, xs.length - (i + 1), by omega, i + 1, z6, σ6, o'', items ++ [y], k', rfl, by omega, Z.le_trans lz (Z.le_trans l3 (Z.le_trans l5 l6)), R7, hle, hJ'', ?_⟩)
          rw [filterMap_take f xs i _ hx, hout]
          exact (rl.mono (Z.le_trans l3 (Z.le_trans l5 l6))).append (.cons ru .nil)
        · rw [List.size_toArray, rl.length, sizeLine_eq]
          have := List.length_filterMap_le f (xs.take i)
          have := List.length_take_le i xs
          omega
    · have he : i = xs.length := by omega
      subst he
      have hlenm : (xs.map φ).length = xs.length := List.length_map ..
      refine WO.fin _ _ _ s' I o' _ _ (by rw [hlenm]; exact hJ') R1'.rh ⟨lz, hS _ le'.led⟩ hat fun h' hx => ?_
      refine wpAny_pure ?_
      have R2 := R1'.unhide (put_ne hID hI0) (fr0.put hD0) stay hx (t := s'.toks)
      obtain ⟨ms, hms, _⟩ := R2.ns
      have hatD := R2.rh.hidden put_self (Stays.list items k)
      have rr : RH C.g (hid C zs s4.heap) σ'.H z' { s' with heap := h' } := R2.rh.unhide hD0
      have Rb := (R4.back lz rr).weaken (σ' := ⟨σ1.loc, H0⟩) (fun _ _ h => h) le'.led
      obtain ⟨oL, esL, epL, eL, dL, _⟩ := id hms
      have apL := fa Lc (by omega)
      have Rl := Rb.hideAt (I := Lc) (o := oL) eL R2.locFree.1 apL
      rw [List.take_length] at rl
      obtain ⟨d1, d2, d3, d4⟩ := fa D (by omega)
      exact fin zs z' { s' with heap := h' } D items k Lc oL Rl apL.1 hR.fr (fun ov e => by rw [dL] at e; cases e) ⟨ms, hms⟩ eL hatD (R2.rh.disj _ _ put_self) ⟨put_ne (Ne.symm hDL) d1, d2, d3, d4⟩ rl _ _
        fun v s'' z'' σ'' lz'' R'' q => ⟨z'', σ'', Z.le_trans l1 (Z.le_trans lz lz''), R'', q⟩
  exact codeAny_compStart_list loop (WO.self s4 I o _ _ hJ (by rw [hh4]; exact eI) loop)

theorem TT.listcomp {g : Gd} {n : Nat} {sc scope : Scope} {elt target iter : Expr} {ifs : List Expr} {pos : Pos} {z₀ : Z} {Q : Z → Value → St → Prop} (hIn : In C g n sc) (K : CompOK scope sc)
    (h : TE C iter (fun v σ1 => ∃ (α : Type) (xs : List α) (φ : α → V) (f : α → Option V) (L : List (Str × V)) (H0 : Led) (S : Led → Prop),
      Walk C v (xs.map φ) S ∧ (∀ H', H0.Sublist H' → S H') ∧ H0.Sublist σ1.H ∧ (∀ x u, L.lookup x = some u → σ1.loc.lookup x = some u ∧ (x, NameKind.free) ∈ scope.names) ∧ xs.length ≤ 16777216 ∧
      (∀ C', In C' g n (relabelS scope sc) → ∀ x ∈ xs, CTurn C' target ifs elt (φ x) (f x) X ⟨L, H0⟩) ∧
      (∀ zs' z' s' a items k, R C zs' ⟨σ1.loc, H0⟩ z' s' → s'.heap.get? a = some (lstO items k) → z' a = none → Apart C zs' ⟨σ1.loc, H0⟩ a → RepL z' (xs.filterMap f) items →
        ∃ z'' σ'', Z.le z' z'' ∧ R C zs' σ'' z'' s' ∧ Q z'' (.ref a) σ'')) X σ)
    (hs : ∀ x, foldedSetIterable iter C.env x = Pure.pure x := by intro _; rfl) : TT C z₀ (eval (.ListComp elt [⟨target, iter, ifs, 0⟩] scope pos) C.env) Q X σ := by
  rw [eval_ListComp]
  refine TT.compCore (use := none) hIn K (h.mono ?_) hs
  rintro v σ1 ⟨α, xs, φ, f, L, H0, S, h1, h2, h3, h4, h5, h6, h7⟩
  refine ⟨α, xs, φ, f, L, H0, S, h1, h2, h3, h4, h5, h6, ?_⟩
  intro zs' z' s' a items k Lc oL R' e1 e2 e3 e4 e5 e6 e7 e8 e9 Qf E hQ
  obtain ⟨m, hm⟩ := e4
  refine ⟨m, hm, fun h' hsb => ?_⟩
  have ne : a ≠ Lc := (put_none e8.1).1
  have R'' := R'.unhideC e1 e2 e3 (t := s'.toks) hsb.extBut
  obtain ⟨z'', σ'', lz, R3, q⟩ := h7 zs' z' { s' with heap := h' } a items k R'' ((hsb.2 a ne).trans e6) e7 ⟨(put_none e8.1).2, e8.2⟩ e9
  exact hQ _ _ z'' σ'' lz R3 q
end
end PL

end
section
open PySem PySem.Calls PyProof.Rows
set_option Elab.async false
set_option linter.unusedVariables false
set_option linter.unusedSimpArgs false
set_option maxRecDepth 100000
namespace PL

def tyOf (o : Bool) : String := if o then "bytes" else "str"

namespace BF
theorem tyty (o : Bool) : typeOf (.type (tyOf o)) = pure (.type "type") := by cases o <;> kernel_rfl
theorem kind_isn : builtinKind "issubclass.nested" = none := by decide +kernel
theorem plain_isn : plainId "issubclass.nested" = true := by decide +kernel
theorem args_isn (a b c : Value) : argsOk "issubclass.nested" ⟨[a, b, c], []⟩ := by unfold argsOk; kernel_rfl
theorem sub_ss : isSubtype (.type "str") (.type "str") = pure true := by rw [isSubtype_type]; kernel_rfl
theorem sub_bs : isSubtype (.type "bytes") (.type "str") = pure false := by rw [isSubtype_type]; kernel_rfl
theorem sub_bb : isSubtype (.type "bytes") (.type "bytes") = pure true := by rw [isSubtype_type]; kernel_rfl
end BF

section
variable {C : Cx} {X : XP} {σ : St} {Q : V → St → Prop}

theorem txt_typeIs {z : Z} {o : Bool} {l : List Nat} {x : Value} (r : Rep z (.txt o l) x) (s : Shared) : s.TypeIs x (tyOf o) := by
  cases r with
  | str _ t => exact typeIs_str _ _ _
  | bytes _ t h => exact PySem.W.typeIs_bytes _ _ _

theorem call_type {o : Bool} {l : List Nat} (h : Q (.con (.type (tyOf o))) σ) : CallV C (.type "type") [.txt o l] Q X σ := by
  refine CallV.toks fun z₀ zs z s xs hz hR r => ?_
  cases r with
  | cons r t =>
    cases t
    exact call_type_of (txt_typeIs r s) (by cases o <;> decide) (PVal.same hR (.con _) h)

section
variable {prog : Program} {w : World} {A : Around} {E : Value → Shared → Prop} {s : Shared}
theorem isn_one {T S : String} {b : Bool} {k : Value} {Q : Fin → Shared → Prop} (hk : ∃ n t, k = .int n t) (hs : isSubtype (.type T) (.type S) = pure b) (hS : typeOf (.type S) = pure (.type "type")) (hq : Q (.done (.ret (.bool b))) s) :
    wpAny (model prog w) A (Builtin.«issubclass.nested» ⟨[.type T, .type S, k], []⟩) Q E s := by
  obtain ⟨n, t, rfl⟩ := hk
  unfold Builtin.«issubclass.nested»
  refine wpAny_bind (m := typeOf (.type S)) (wpAny_of_eq hS ?_)
  show wpAny _ _ (if (Value.type "type" == Value.type "type") = true then _ else _) _ _ s
  rw [if_pos (by decide)]
  repeat (any_goals (first | assumption | (rw [hs]) | wp_step))
theorem isn_call {T S : String} {b : Bool} {Q : Value → Shared → Prop} (hs : isSubtype (.type T) (.type S) = pure b) (hS : typeOf (.type S) = pure (.type "type")) (hq : Q (.bool b) s) :
    wpAny (model prog w) A (call (.builtin "issubclass.nested") [.type T, .type S, rawInt (0 + 1)]) Q E s := by
  refine call_function_any BF.kind_isn BF.plain_isn F.entry_issubclass_nested (BF.args_isn _ _ _) ?_
  exact isn_one ⟨_, _, rfl⟩ hs hS hq

/-- is the class one of the two text classes -/
theorem isn_pair {o : Bool} {a : Addr} {n : Nat} {Q : Fin → Shared → Prop} (ho : s.heap.get? a = some (tupO [.type "str", .type "bytes"] n)) (hq : Q (.done (.ret (.bool true))) s) :
    wpAny (model prog w) A (Builtin.«issubclass.nested» ⟨[.type (tyOf o), .ref a, rawInt 0], []⟩) Q E s := by
  have hT : s.TypeIs (.ref a) "tuple" := ⟨_, ho, rfl⟩
  unfold Builtin.«issubclass.nested»
  refine wpAny_bind (m := typeOf (.ref a)) (wpAny_typeOf hT ?_)
  show wpAny _ _ (if (Value.type "tuple" == Value.type "type") = true then _ else _) _ _ s
  rw [if_neg (by decide)]
  refine wpAny_bind (m := Builtin.Builtins.unionMembers (.ref a)) ?_
  unfold Builtin.Builtins.unionMembers
  refine wpAny_bind (wpAny_typeOf hT ?_)
  rw [if_neg (by decide)]
  refine wpAny_pure ?_
  refine wpAny_bind (wpAny_isInstance hT sub_tuple_tuple ?_)
  rw [if_pos rfl]
  have key : wpAny (model prog w) A (do
      for c in (← seqItems? (.ref a)).getD #[] do
        if ← truthy (← call (.builtin "issubclass.nested") [.type (tyOf o), c, rawInt (0 + 1)]) then return ← ret (.bool true)
      return ← ret (.bool false)) Q E s := by
    refine wpAny_bind ?_
    unfold seqItems?
    refine wpAny_bind (wpAny_load ho (wpAny_pure ?_))
    simp only [Option.getD_some, List.forIn_toArray, List.forIn_cons, List.forIn_nil]
    cases o with
    | false =>
      refine wpAny_bind (wpAny_bind (wpAny_bind (isn_call BF.sub_ss (BF.tyty false) ?_)))
      refine wpAny_bind (wpAny_truthy_bool ?_)
      rw [if_pos rfl]
      repeat (any_goals (first | assumption | wp_step))
    | true =>
      refine wpAny_bind (wpAny_bind (wpAny_bind (isn_call BF.sub_bs (BF.tyty false) ?_)))
      refine wpAny_bind (wpAny_truthy_bool ?_)
      rw [if_neg Bool.false_ne_true]
      refine wpAny_pure ?_
      refine wpAny_bind (wpAny_bind (isn_call BF.sub_bb (BF.tyty true) ?_))
      refine wpAny_bind (wpAny_truthy_bool ?_)
      rw [if_pos rfl]
      repeat (any_goals (first | assumption | wp_step))
  exact key
theorem issub_pair {o : Bool} {a : Addr} {n : Nat} {Q : Value → Shared → Prop} (ho : s.heap.get? a = some (tupO [.type "str", .type "bytes"] n)) (hq : Q (.bool true) s) :
    wpAny (model prog w) A (call (.builtin "issubclass") [.type (tyOf o), .ref a]) Q E s := by
  refine call_function_any F.kind_issubclass F.plain_issubclass F.entry_issubclass (F.args_issubclass_2 _ _) ?_
  exact issubclass_outer (R := fun r s' => match r with | .ok (.ret v) => Q v s' | .ok _ => False | .error e => E e s') (isn_pair ho hq)
end
theorem call_issubclass_pair {o : Bool} (h : Q (.bool true) σ) : CallV C (.builtin "issubclass") [.con (.type (tyOf o)), .tup [.con (.type "str"), .con (.type "bytes")]] Q X σ := by
  refine CallV.toks fun z₀ zs z s xs hz hR r => ?_
  cases r with
  | cons r t => cases t with
    | cons r2 t => cases t; cases r with
      | con => cases r2 with
        | tup e hr => cases hr with
          | cons a b => cases a; cases b with
            | cons a b => cases a; cases b; exact issub_pair (hR.rh.hz _ _ e) (PVal.same hR (.bool true) h)
end
end PL

end
section
open PySem PySem.Calls PyProof.Rows
set_option Elab.async false
set_option linter.unusedVariables false
set_option linter.unusedSimpArgs false
set_option maxRecDepth 100000
namespace PL

section
variable {C : Cx} {X : XP} {σ : St} {Q : V → St → Prop}

theorem CallV.grown {Q : V → St → Prop} {zs z : Z} {s : Shared} (hR : R C zs σ z s) {v : V} {x : Value} {h' : Heap} {t : Nat} (k : ∀ b o, s.heap.get? b = some o → h'.get? b = some o) (r : Rep z v x) (h : Q v σ) :
    ∃ z' σ', Z.le z z' ∧ R C zs σ' z' { s with heap := h', toks := t } ∧ PVal Q z' x σ' := ⟨z, σ, Z.le_refl _, hR.grow k, v, r, h⟩

theorem call_isinstance_txt {o p : Bool} {l : List Nat} (h : Q (.bool (o == p)) σ) : CallV C (.builtin "isinstance") [.txt o l, .con (.type (tyOf p))] Q X σ := by
  refine CallV.toks fun z₀ zs z s xs hz hR r => ?_
  cases r with
  | cons r t => cases t with
    | cons r2 t => cases t; cases r2; cases r with
      | str _ t =>
        cases p with
        | false => exact PySem.IsiPair.str_str (PVal.same hR (.bool true) h)
        | true => exact PySem.IsiPair.str_bytes (PVal.toks hR (.bool false) h)
      | bytes _ t hl =>
        cases p with
        | false => exact call_isinstance (fun _ _ _ _ s hs => by
            obtain ⟨h, g, d, t, os⟩ := s
            exact isinstance_outer (isinstance_nested_false_bytes (by decide) (BF.tyty false) BF.sub_bs hs)) (S := fun _ R s => R (.ok (.ret (.bool false))) { s with toks := s.toks + 1 }) (PVal.toks hR (.bool false) h)
        | true => exact call_isinstance (isinstance_true (BF.tyty true) BF.sub_bb) ⟨PySem.W.typeIs_bytes _ _ _, PVal.same hR (.bool true) h⟩

theorem call_len_list {v : V} {vs : List V} (k : IsL σ v vs) (hn : vs.length ≤ 16777216) (h : Q (.int vs.length) σ) : CallV C (.builtin "len") [v] Q X σ := by
  refine CallV.toks fun z₀ zs z s xs hz hR r => ?_
  cases r with
  | cons r t =>
    cases t
    obtain ⟨a, items, rfl, p, q⟩ := k.at r (Z.le_refl _) hR
    have e : items.toArray.size = vs.length := by rw [List.size_toArray, q.length]
    exact PySem.Calls.call_len_list p (by rw [e]; omega) (PVal.toks hR (by rw [e]; exact .int _ _) h)
theorem call_ord {c : Nat} (h : Q (.int c) σ) : CallV C (.builtin "ord") [.txt false [c]] Q X σ := by
  refine CallV.toks fun z₀ zs z s xs hz hR r => ?_
  cases r with
  | cons r t => cases t; cases r with
    | str _ t => exact P.ord_of_char (PVal.toks hR (.int _ _) h)
theorem call_chr {i : Int} (h0 : 0 ≤ i) (h1 : i ≤ 1114111) (h : Q (.txt false [i.toNat]) σ) : CallV C (.builtin "chr") [.int i] Q X σ := by
  refine CallV.toks fun z₀ zs z s xs hz hR r => ?_
  cases r with
  | cons r t => cases t; cases r with
    | int _ t => exact P.chr_of_int (by simp; omega) (PVal.toks hR (.str _ _) h)
theorem call_abs {i : Int} (h : Q (.int (if i < 0 then -i else i)) σ) : CallV C (.builtin "abs") [.int i] Q X σ := by
  refine CallV.toks fun z₀ zs z s xs hz hR r => ?_
  cases r with
  | cons r t => cases t; cases r with
    | int _ t => exact call_abs_int fun u tk => PVal.toks hR (.int _ _) h
theorem RepL.intItems {z : Z} : ∀ {ns : List Int} {xs : List Value}, RepL z (ns.map .int) xs → ∃ ps : List (Int × Tok), xs = ps.map (fun p => .int p.1 p.2) ∧ ps.map (·.1) = ns
  | [], _, .nil => ⟨[], rfl, rfl⟩
  | n :: ns, _, .cons r t => by
    obtain ⟨ps, e1, e2⟩ := RepL.intItems t
    cases r with
    | int _ tk => exact ⟨(n, tk) :: ps, by simp [e1], by simp [e2]⟩
theorem preSum_list (ps : List (Int × Tok)) : preSum (numAt ps.toArray) ps.toArray.size = (ps.map (·.1)).sum := by
  rw [preSum_eq, List.take_of_length_le (by simp)]
theorem call_sum {v : V} {ns : List Int} (hh : C.A.handled = none) (k : IsL σ v (ns.map .int)) (h : Q (.int ns.sum) σ) : CallV C (.builtin "sum") [v] Q X σ := by
  refine CallV.toks fun z₀ zs z s xs hz hR r => ?_
  cases r with
  | cons r t =>
    cases t
    obtain ⟨a, items, rfl, p, q⟩ := k.at r (Z.le_refl _) hR
    obtain ⟨ps, e1, e2⟩ := q.intItems
    have e3 : items.toArray = intItems ps.toArray := by rw [e1]; simp [PySem.intItems]
    rw [e3] at p
    refine sum_intListG hh p fun h' tk t' k => ?_
    rw [preSum_list, e2]
    exact CallV.grown hR k (.int _ _) h
theorem call_bytes {v : V} {ns : List Nat} (hh : C.A.handled = none) (k : IsL σ v (ns.map fun c : Nat => .int (c : Int))) (hr : ∀ c ∈ ns, c < 256) (hn : ns.length ≤ 16777216) (h : Q (.txt true ns) σ) :
    CallV C (.type "bytes") [v] Q X σ := by
  refine CallV.toks fun z₀ zs z s xs hz hR r => ?_
  cases r with
  | cons r t =>
    cases t
    obtain ⟨a, items, rfl, p, q⟩ := k.at r (Z.le_refl _) hR
    have q' : RepL z ((ns.map fun c : Nat => (c : Int)).map .int) items := by rw [List.map_map]; exact q
    obtain ⟨ps, e1, e2⟩ := q'.intItems
    have hi : ∀ ps : List (Int × Tok), IntsAre (ps.map fun p => .int p.1 p.2) (ps.map (·.1)) := by
      intro ps
      induction ps with
      | nil => exact .nil
      | cons p r ih => exact .cons _ _ ih
    subst e1
    refine call_bytes_ints p (hi ps) ?_ (by have := q'.length; rw [List.length_map, List.length_map] at this; rw [List.length_map] at this ⊢; rw [this]; exact size_ok hn) hh fun h' t k hk => ?_
    · rw [e2]
      intro n hn
      obtain ⟨c, hc, rfl⟩ := List.mem_map.mp hn
      have := hr c hc
      omega
    · have : PySem.byteArr (ps.map (·.1)) = (ns.map UInt8.ofNat).toArray := by
        rw [e2]
        unfold PySem.byteArr
        rw [List.map_map]
        congr 1
      rw [this]
      exact CallV.grown hR hk (.bytes _ _ hr) h

theorem RepL.strItems {z : Z} : ∀ {ns : List (List Nat)} {xs : List Value}, RepL z (ns.map (.txt false)) xs → ∃ ps : List (Str × Tok), xs = strValues ps ∧ ps.map (·.1) = ns.map strOf
  | [], _, .nil => ⟨[], rfl, rfl⟩
  | n :: ns, _, .cons r t => by
    obtain ⟨ps, e1, e2⟩ := RepL.strItems t
    cases r with
    | str _ tk => exact ⟨(strOf n, tk) :: ps, by simp [e1, strValues, strOf], by simp [e2]⟩
theorem joinFold (sep : Nat) : ∀ (ps : List (List Nat)) (acc : Nat), (ps.map strOf).foldl (fun a x => a + x.length + sep) acc = acc + (ps.map List.length).sum + ps.length * sep
  | [], acc => by simp
  | p :: r, acc => by
    rw [List.map_cons, List.foldl_cons, joinFold sep r, List.map_cons, List.sum_cons, List.length_cons, Nat.succ_mul]
    have : (strOf p).length = p.length := strlen
    rw [this]; omega
theorem call_join_str {sep : List Nat} {v : V} {ps : List (List Nat)} (k : IsL σ v (ps.map (.txt false))) (hn : (ps.map List.length).sum + ps.length * sep.length ≤ 16777216) (h : Q (.txt false (joinS sep ps)) σ) :
    CallV C (.builtin "str.join") [.txt false sep, v] Q X σ := by
  refine CallV.toks fun z₀ zs z s xs hz hR r => ?_
  cases r with
  | cons r t => cases t with
    | cons r2 t =>
      cases t
      obtain ⟨a, items, n, rfl, p, q⟩ := k.obj r2 (Z.le_refl _) hR
      cases r with
      | str _ t =>
        obtain ⟨l, e1, e2⟩ := q.strItems
        subst e1
        refine SC.join (D := a) (l := l) (texts := ps.map strOf) ⟨_, p, rfl, _, rfl⟩ e2 ?_ fun t' k' => ?_
        · unfold JoinOk
          rw [Bool.not_eq_true']
          show Builtin.Str.tooLong _ = false
          have := joinFold sep.length ps 0
          have e : ((ps.map strOf).toArray.foldl (fun x1 x2 => x1 + x2.length + (⟨sep.toArray⟩ : Str).length) 0) = 0 + (ps.map List.length).sum + ps.length * sep.length := by
            rw [List.foldl_toArray, strlen]; exact this
          rw [e]
          unfold Builtin.Str.tooLong
          rw [sizeLine_eq]
          simp; omega
        · have e : Txt.join ⟨sep.toArray⟩ (ps.map strOf) = strOf (joinS sep ps) := by
            rw [← str_join]; exact StrLaws.glued_eq_join _ _
          rw [e]
          exact PVal.toks hR (.str _ _) h
theorem call_join_bytes {sep : List Nat} {v : V} {ps : List (List Nat)} (k : IsL σ v (ps.map (.txt true))) (hn : (ps.map List.length).sum + ps.length * sep.length ≤ 16777216) (h : Q (.txt true (joinS sep ps)) σ) :
    CallV C (.builtin "bytes.join") [.txt true sep, v] Q X σ := by
  refine CallV.toks fun z₀ zs z s xs hz hR r => ?_
  cases r with
  | cons r t => cases t with
    | cons r2 t =>
      cases t
      obtain ⟨a, items, n, rfl, p, q⟩ := k.obj r2 (Z.le_refl _) hR
      cases r with
      | bytes _ t hs =>
        have hj : (joinS sep ps).length ≤ 16777216 := by
          rw [joinS_length]
          have : sep.length * (ps.length - 1) ≤ ps.length * sep.length := by rw [Nat.mul_comm]; exact Nat.mul_le_mul_right _ (Nat.sub_le _ _)
          omega
        refine call_meets BF.slot_join (PySem.W.typeIs_bytes _ _ _) BF.entry_join (BF.args_join _ _) (meets_bytes_join (n := n) q hs hj) ⟨p, fun t' k' => ?_⟩
        refine PVal.toks hR (.bytes _ _ fun c hc => ?_) h
        rcases joinS_mem hc with e | ⟨p', hp, e⟩
        · exact hs c e
        · obtain ⟨i, hi, e2⟩ := List.getElem_of_mem hp
          have hget : (ps.map (V.txt true))[i]? = some (.txt true p') := by rw [List.getElem?_map, List.getElem?_eq_getElem hi, e2]; rfl
          obtain ⟨x, _, rx⟩ := q.get hget
          cases rx with
          | bytes _ _ hb => exact hb c e
theorem call_join {o : Bool} {sep : List Nat} {v : V} {ps : List (List Nat)} (k : IsL σ v (ps.map (.txt o))) (hn : (ps.map List.length).sum + ps.length * sep.length ≤ 16777216) (h : Q (.txt o (joinS sep ps)) σ) :
    CallV C (.builtin (tyOf o ++ ".join")) [.txt o sep, v] Q X σ := by
  cases o
  · exact call_join_str k hn h
  · exact call_join_bytes k hn h
theorem call_range2 {a b : Int} (h : Q (.rng a b 1) σ) : CallV C (.type "range") [.int a, .int b] Q X σ := by
  refine CallV.toks fun z₀ zs z s xs hz hR r => ?_
  cases r with
  | cons r t => cases t with
    | cons r2 t => cases t; cases r with
      | int _ t => cases r2 with
        | int _ u =>
          refine call_range_2 ?_
          obtain ⟨R', l⟩ := hR.frozen { cls := .type "range", data := .fields #[.int a t, .int b u, .int 1 s.toks] } (s.toks + 1)
          exact ⟨_, _, l, R', _, .rng put_self, h⟩
end
end PL

end
section
open PySem PySem.Calls PyProof.Rows
set_option Elab.async false
set_option linter.unusedVariables false
set_option linter.unusedSimpArgs false
set_option maxRecDepth 100000
namespace PL

section
variable {C : Cx} {X : XP} {σ : St}

theorem TE.listcompF {g : Gd} {n : Nat} {sc scope : Scope} {elt target iter : Expr} {ifs : List Expr} {pos : Pos} {Q : V → St → Prop} (hIn : In C g n sc) (K : CompOK scope sc)
    (h : TE C iter (fun v σ1 => ∃ (α : Type) (xs : List α) (φ : α → V) (f : α → Option V) (L : List (Str × V)) (H0 : Led) (S : Led → Prop),
      Walk C v (xs.map φ) S ∧ (∀ H', H0.Sublist H' → S H') ∧ H0.Sublist σ1.H ∧ (∀ x u, L.lookup x = some u → σ1.loc.lookup x = some u ∧ (x, NameKind.free) ∈ scope.names) ∧ xs.length ≤ 16777216 ∧
      (∀ C', In C' g n (relabelS scope sc) → ∀ x ∈ xs, CTurn C' target ifs elt (φ x) (f x) X ⟨L, H0⟩) ∧
      Q (.lst (xs.filterMap f)) ⟨σ1.loc, H0⟩) X σ)
    (hs : ∀ x, foldedSetIterable iter C.env x = pure x := by intro _; rfl) : TE C (.ListComp elt [⟨target, iter, ifs, 0⟩] scope pos) Q X σ := by
  intro z₀
  refine TT.listcomp hIn K (h.mono fun v σ1 ⟨α, xs, φ, f, L, H0, S, h1, h2, h3, h4, h5, h6, h7⟩ => ⟨α, xs, φ, f, L, H0, S, h1, h2, h3, h4, h5, h6, ?_⟩) hs
  intro zs' z' s' a items k R' e ez ap rl
  have l := Z.le_put R'.rh e
  exact ⟨_, _, l, R'.freeze e ap, _, .lst put_self (rl.mono l), h7⟩
theorem TS.expr {e : Expr} {pos : Pos} {Q : Fl → St → Prop} (h : TE C e (fun _ σ1 => Q .next σ1) X σ) (hs : swapsWith e none pos.line C.env = pure false := by rfl) : TS C (.Expr e pos) Q X σ := by
  intro z₀
  have hi : interactive C.env = false := by unfold interactive; rw [C.hk]; rfl
  rw [exec_Expr (env := C.env) e pos hi hs]
  refine TT.at_ (TT.bind (TT.mono (h z₀) ?_))
  rintro z v σ1 l ⟨_, _, q⟩
  intro zs z' s hz hR
  exact wpAny_dropValue ⟨z', σ1, Z.le_refl _, hR, .next, .next, q⟩

/-- reading `l[k]` -/
def Get (C : Cx) (o i : V) (Q : V → St → Prop) (X : XP) (σ : St) : Prop := ∀ z₀ x y, Rep z₀ o x → Rep z₀ i y → TT C z₀ (getItem x y) (PVal Q) X σ
/-- setting `l[k]` -/
def Put (C : Cx) (o i v : V) (Q : St → Prop) (X : XP) (σ : St) : Prop := ∀ z₀ x y u, Rep z₀ o x → Rep z₀ i y → Rep z₀ v u → TT C z₀ (setItem x y u) (fun _ _ σ' => Q σ') X σ
theorem TS.augSub {o i e : Expr} {tpos pos : Pos} {op : Operator} {Q : Fl → St → Prop}
    (h : TE C o (fun ov σ1 => TE C i (fun iv σ2 => Get C ov iv (fun old σ3 => TE C e (fun v σ4 => Inp C op old v (fun new σ5 => Put C ov iv new (fun σ6 => Q .next σ6) X σ5) X σ4) X σ3) X σ2) X σ1) X σ)
    (hi : ∀ ov iv new, augStore i ov iv new = (do holding [new, ov, iv] (setItem ov iv new); release [new, ov, iv] []; pure .next) := by intros; rfl) :
    TS C (.AugAssign (.Subscript o i tpos) op e pos) Q X σ := by
  intro z₀ zs z s hz hR
  refine wpAny_AugAssign_SubscriptAny ?_ hi
  refine wpAny_mono (h z₀ zs z s hz hR) ?_ fun _ _ x => x
  rintro ov s1 ⟨z1, σ1, l1, R1, vo, ro, h1⟩
  refine wpAny_mono (h1 z1 zs z1 s1 (Z.le_refl _) R1) ?_ fun _ _ x => PX.le l1 x
  rintro iv s2 ⟨z2, σ2, l2, R2, vi, ri, h2⟩
  refine wpAny_mono (h2 z2 ov iv (ro.mono l2) ri zs z2 s2 (Z.le_refl _) R2) ?_ fun _ _ x => PX.le (Z.le_trans l1 l2) x
  rintro old s3 ⟨z3, σ3, l3, R3, vold, rold, h3⟩
  refine wpAny_mono (h3 z3 zs z3 s3 (Z.le_refl _) R3) ?_ fun _ _ x => PX.le (Z.le_trans (Z.le_trans l1 l2) l3) x
  rintro v s4 ⟨z4, σ4, l4, R4, vv, rv, h4⟩
  refine wpAny_mono (h4 z4 old v (rold.mono l4) rv zs z4 s4 (Z.le_refl _) R4) ?_ fun _ _ x => PX.le (Z.le_trans (Z.le_trans (Z.le_trans l1 l2) l3) l4) x
  rintro new s5 ⟨z5, σ5, l5, R5, vn, rn, h5⟩
  have l25 := Z.le_trans (Z.le_trans l3 l4) l5
  refine wpAny_mono (h5 z5 ov iv new (ro.mono (Z.le_trans l2 l25)) (ri.mono l25) rn zs z5 s5 (Z.le_refl _) R5) ?_ fun _ _ x => PX.le (Z.le_trans (Z.le_trans l1 l2) l25) x
  rintro ⟨⟩ s6 ⟨z6, σ6, l6, R6, h6⟩
  exact ⟨z6, σ6, Z.le_trans (Z.le_trans (Z.le_trans l1 l2) l25) l6, R6, .next, .next, h6⟩

theorem RepL.set {z : Z} : ∀ {vs : List V} {xs : List Value} {v : V} {x : Value} (j : Nat), RepL z vs xs → Rep z v x → RepL z (vs.set j v) (xs.set j x)
  | _, _, _, _, _, .nil, _ => by simpa using RepL.nil
  | _, _, _, _, 0, .cons a t, r => .cons r t
  | _, _, _, _, j + 1, .cons a t, r => .cons a (t.set j r)
end

/-! equality of plain data -/
mutual
def toD : V → PyData
  | .none => .none
  | .bool b => .bool b
  | .int i => .int i
  | .txt _ l => .str ⟨l.toArray⟩
  | .tup vs => .tuple (toDs vs)
  | .lst vs => .list (toDs vs)
  | _ => .none
def toDs : List V → List PyData
  | [] => []
  | v :: r => toD v :: toDs r
end
mutual
def plainV : V → Bool
  | .none => true
  | .bool _ => true
  | .int _ => true
  | .txt o l => !o && l.all (· < 0x110000)
  | .tup vs => plainVs vs
  | .lst vs => plainVs vs
  | _ => false
def plainVs : List V → Bool
  | [] => true
  | v :: r => plainV v && plainVs r
end
mutual
def deepV : V → Nat
  | .tup vs => deepVs vs + 1
  | .lst vs => deepVs vs + 1
  | _ => 0
def deepVs : List V → Nat
  | [] => 0
  | v :: r => max (deepV v) (deepVs r)
end
mutual
theorem reads_of {z : Z} {h : Heap} (k : ∀ b o, z b = some o → h.get? b = some o) : ∀ {v : V} {x : Value}, Rep z v x → plainV v = true → ∃ as, Reads h x (toD v) as
  | _, _, .none, _ => ⟨_, .none⟩
  | _, _, .bool b, _ => ⟨_, .bool b⟩
  | _, _, .int i t, _ => ⟨_, .int i t⟩
  | _, _, .str l t, _ => ⟨_, .str _ t⟩
  | _, _, .bytes l t _, e => by simp [plainV] at e
  | _, _, .tup e hr, p => let ⟨as, ra⟩ := reads_ofs k hr (by simpa [plainV] using p); ⟨_, .tuple (k _ _ e) rfl rfl (by simpa using ra)⟩
  | _, _, .lst e hr, p => let ⟨as, ra⟩ := reads_ofs k hr (by simpa [plainV] using p); ⟨_, .list (k _ _ e) rfl rfl (by simpa using ra)⟩
  | _, _, .ref a, p => by simp [plainV] at p
  | _, _, .con v, p => by simp [plainV] at p
  | _, _, .rng _, p => by simp [plainV] at p
  | _, _, .opq _ _, p => by simp [plainV] at p
theorem reads_ofs {z : Z} {h : Heap} (k : ∀ b o, z b = some o → h.get? b = some o) : ∀ {vs : List V} {xs : List Value}, RepL z vs xs → plainVs vs = true → ∃ as, ReadsAll h xs (toDs vs) as
  | _, _, .nil, _ => ⟨_, .nil⟩
  | v :: vs, _, .cons r t, p => by
    have p1 : plainV v = true ∧ plainVs vs = true := by simpa [plainVs] using p
    obtain ⟨as, ra⟩ := reads_of k r p1.1
    obtain ⟨bs, rb⟩ := reads_ofs k t p1.2
    exact ⟨_, .cons ra rb⟩
end
mutual
theorem canLay_of : ∀ {v : V}, plainV v = true → (toD v).canLay0 = true
  | .none, _ => rfl
  | .bool _, _ => rfl
  | .int _, _ => rfl
  | .txt o l, p => by simp [plainV] at p; simpa [toD, PyData.canLay0, PyData.strOk] using p.2
  | .tup vs, p => by simpa [toD, PyData.canLay0] using canLays_of (by simpa [plainV] using p)
  | .lst vs, p => by simpa [toD, PyData.canLay0] using canLays_of (by simpa [plainV] using p)
  | .ref _, p => by simp [plainV] at p
  | .con _, p => by simp [plainV] at p
  | .rng _ _ _, p => by simp [plainV] at p
  | .opq _, p => by simp [plainV] at p
theorem canLays_of : ∀ {vs : List V}, plainVs vs = true → PyData.canLayAll0 (toDs vs) = true
  | [], _ => rfl
  | v :: r, p => by
    have p1 : plainV v = true ∧ plainVs r = true := by simpa [plainVs] using p
    simp [toDs, PyData.canLayAll0, canLay_of p1.1, canLays_of p1.2]
end
mutual
theorem depth_of : ∀ (v : V), (toD v).depth = deepV v
  | .none => rfl
  | .bool _ => rfl
  | .int _ => rfl
  | .txt o l => rfl
  | .tup vs => by simp [toD, PyData.depth, deepV, depths_of vs]
  | .lst vs => by simp [toD, PyData.depth, deepV, depths_of vs]
  | .ref _ => rfl
  | .con _ => rfl
  | .rng _ _ _ => rfl
  | .opq _ => rfl
theorem depths_of : ∀ (vs : List V), PyData.depthAll (toDs vs) = deepVs vs
  | [] => rfl
  | v :: r => by simp [toDs, PyData.depthAll, deepVs, depth_of v, depths_of r]
end
section
variable {C : Cx} {X : XP} {σ : St} {Q : V → St → Prop}
end
end PL

end
section
open PySem PySem.W PySem.Calls PyProof.Rows
set_option Elab.async false
set_option linter.unusedVariables false
set_option linter.unusedSimpArgs false
set_option maxRecDepth 100000
namespace PL

def recAt (p : Program) (i : Nat) : DefRec := match p.main.body[i]? with
  | some (.FunctionDef n a b _ _ _ sc _ _ pos) => ⟨n, a, b, sc, pos⟩
  | _ => ⟨default, { posonlyargs := [], args := [], vararg := none, kwonlyargs := [], kw_defaults := [], kwarg := none, defaults := [] }, [], default, default⟩
abbrev bodyAt (p : Program) (i : Nat) : List Stmt := (recAt p i).body
abbrev scAt (p : Program) (i : Nat) : Scope := (recAt p i).scope
abbrev nameAt (p : Program) (i : Nat) : Str := (recAt p i).name
abbrev parsAt (p : Program) (i : Nat) : List Str := (recAt p i).params.args.map (·.arg)

/-- the address holds the function of the text's statement i -/
def Fn (g : Gd) (p : Program) (i : Nat) (a : Addr) : Prop := g.mg (nameAt p i) = some (.ref a) ∧ ∃ fd, IsFn g a fd (bodyAt p i) (scAt p i) (parsAt p i)
/-- names of builtins that the text does not bind -/
def Free (g : Gd) (bs : List Str) : Prop := ∀ x ∈ bs, g.mg x = none

section
variable {C : Cx} {X : XP} {σ : St} {Q : V → St → Prop} {g : Gd} {n : Nat} {sc : Scope}
theorem Fn.kept {g : Gd} {p : Program} {i : Nat} {a : Addr} (h : Fn g p i a) : Kept g (.ref a) :=
  let ⟨_, fd, F⟩ := h; let ⟨o, e, d⟩ := F.at_; .fn e d
theorem TE.callG (hIn : In C g n sc) {p : Program} {i : Nat} {a : Addr} {x : Str} {np pos : Pos} {args : List Expr} (hf : Fn g p i a) (hx : nameAt p i = x) (hl : sc.names.lookup x = some .globalImplicit)
    (h : TArgs C args (fun vs σ2 => CallV C (.ref a) vs Q X σ2) X σ) (hd : (x == ("__debug__" : Str)) = false := by decide +kernel)
    (hp : (backTo pos (starEach args C.env)).any (·.1) = false := by rfl)
    (he : eval (.Call (.Name x np) args [] pos) C.env = (do callWith pos (← eval (.Name x np) C.env) [] (backTo pos (starEach args C.env)) []) := by rfl) : TE C (.Call (.Name x np) args [] pos) Q X σ := by
  have hg := hIn.g
  subst hg
  exact TE.call (TE.name_glob ((hIn.kind x).trans hl) (hx ▸ hf.1) ⟨_, rfl, hf.kept, h⟩ hd) hp he
theorem TE.callB (hIn : In C g n sc) {bs : List Str} {x : Str} {f : Value} {np pos : Pos} {args : List Expr} (hl : sc.names.lookup x = some .globalImplicit) (hfr : Free g bs) (hm : x ∈ bs) (hv : bootBuiltins x = some f)
    (kf : ∀ g, Kept g f) (h : TArgs C args (fun vs σ2 => CallV C f vs Q X σ2) X σ) (hd : (x == ("__debug__" : Str)) = false := by decide +kernel) (hn' : x ≠ "__name__" := by decide +kernel)
    (hp : (backTo pos (starEach args C.env)).any (·.1) = false := by rfl)
    (he : eval (.Call (.Name x np) args [] pos) C.env = (do callWith pos (← eval (.Name x np) C.env) [] (backTo pos (starEach args C.env)) []) := by rfl) : TE C (.Call (.Name x np) args [] pos) Q X σ := by
  have hg := hIn.g
  subst hg
  exact TE.call (TE.name_builtin ((hIn.kind x).trans hl) (hfr x hm) hv ⟨_, rfl, kf _, h⟩ hd hn') hp he
theorem TE.nameB (hIn : In C g n sc) {bs : List Str} {x : Str} {f : Value} {np : Pos} (hl : sc.names.lookup x = some .globalImplicit) (hfr : Free g bs) (hm : x ∈ bs) (hv : bootBuiltins x = some f)
    (h : Q (.con f) σ) (hd : (x == ("__debug__" : Str)) = false := by decide +kernel) (hn' : x ≠ "__name__" := by decide +kernel) : TE C (.Name x np) Q X σ := by
  have hg := hIn.g
  subst hg
  exact TE.name_builtin ((hIn.kind x).trans hl) (hfr x hm) hv h hd hn'
theorem TE.nameL (hIn : In C g n sc) {x : Str} {np : Pos} {v : V} (hl : sc.names.lookup x = some .local) (hv : σ.loc.lookup x = some v) (h : Q v σ) (hd : (x == ("__debug__" : Str)) = false := by decide +kernel) : TE C (.Name x np) Q X σ :=
  TE.name_local ((hIn.kind x).trans hl) hv h hd
theorem In.stL (hIn : In C g n sc) {x : Str} (e : sc.names.lookup x = some .local) : Stores C x := .loc ((hIn.kind x).trans e)
theorem CallV.fnI (hIn : In C g n sc) {a : Value} {vs : List V} {m : Nat} (h : CallT g m a vs (fun v H' => Q v ⟨σ.loc, H'⟩) (fun cls H' => X cls ⟨σ.loc, H'⟩) σ.H) (hm : m ≤ n) : CallV C a vs Q X σ := by
  have hg := hIn.g
  subst hg
  exact CallV.fn (by rw [hIn.n]; exact hm) hIn.calm h
end

theorem lk_hit {L : List (Str × V)} {x : Str} {v : V} : (setL L x v).lookup x = some v := by rw [lookup_setL, if_pos rfl]
theorem lk_miss {L : List (Str × V)} {x y : Str} {v u : V} (h : y ≠ x) (k : L.lookup y = some u) : (setL L x v).lookup y = some u := by rw [lookup_setL, if_neg h]; exact k
theorem lk_hd {L : List (Str × V)} {x : Str} {v : V} : List.lookup x ((x, v) :: L) = some v := by simp
theorem lk_tl {L : List (Str × V)} {x y : Str} {v u : V} (h : y ≠ x) (k : L.lookup y = some u) : List.lookup y ((x, v) :: L) = some u := by
  rw [List.lookup_cons, beq_eq_false_iff_ne.mpr h]; exact k
theorem Lo.nil {L : List (Str × V)} : Lo [] L := fun _ _ h => by cases h
theorem Lo.cons {L L' : List (Str × V)} {x : Str} {v : V} (h : L'.lookup x = some v) (t : Lo L L') : Lo ((x, v) :: L) L' := by
  intro y u e
  rw [List.lookup_cons] at e
  cases k : y == x with
  | true => rw [k] at e; cases e; rw [eq_of_beq k]; exact h
  | false => rw [k] at e; exact t y u e

section
variable {C : Cx} {X : XP} {σ : St} {Q : V → St → Prop}
theorem TE.str {x : Str} {l : List Nat} {k : Nat} {p : Pos} (e : x.cps.toList = l) (h : Q (.txt false l) σ) : TE C (.Constant (.str x) k p) Q X σ := TE.const_str (by rw [e]; exact h)
theorem TE.byt {b : List UInt8} {l : List Nat} {k : Nat} {p : Pos} (e : b.map UInt8.toNat = l) (h : Q (.txt true l) σ) : TE C (.Constant (.bytes b) k p) Q X σ := TE.const_bytes (by rw [e]; exact h)

theorem Meth.join {o : Bool} {l : List Nat} : Meth C σ (.txt o l) "join" (tyOf o ++ ".join") := by
  cases o
  · exact Meth.str PySem.F.slot_str_join PySem.F.type_str_join
  · exact Meth.bytes BF.slot_join BF.type_join
theorem Meth.split {o : Bool} {l : List Nat} : Meth C σ (.txt o l) "split" (tyOf o ++ ".split") := by
  cases o
  · exact Meth.str PySem.F.slot_str_split PySem.F.type_str_split
  · exact Meth.bytes BF.slot_split BF.type_split
theorem TE.join (o : Bool) {e : Expr} {args : List Expr} {apos pos : Pos} (h : TE C e (fun ov σ1 => ∃ l, ov = .txt o l ∧ TArgs C args (fun vs σ2 => ∃ v ps, vs = [v] ∧ IsL σ2 v (ps.map (.txt o)) ∧ (ps.map List.length).sum + ps.length * l.length ≤ 16777216 ∧ Q (.txt o (joinS l ps)) σ2) X σ1) X σ)
    (hp : (backTo pos (starEach args C.env)).any (·.1) = false := by rfl) (hb : attributeBase e "join" C.env (eval e C.env) = eval e C.env := by rfl)
    (hf : methodCallForm (args.length + 0) (backTo pos (starEach args C.env)) [] = true := by rfl) (hl : (apos.endLine == pos.line) = true := by rfl) : TE C (.Call (.Attribute e "join" apos) args [] pos) Q X σ := by
  refine TE.meth (id := tyOf o ++ ".join") (h.mono ?_) hp hb hf hl
  rintro ov σ1 ⟨l, rfl, h⟩
  refine ⟨Meth.join, fun p z₀ => (h p z₀).mono ?_⟩
  rintro z xs σ2 _ ⟨vs, r, v, ps, rfl, k, hn, q⟩
  exact ⟨_, r, call_join k hn q⟩
theorem TE.joinS {e : Expr} {args : List Expr} {apos pos : Pos} (h : TE C e (fun ov σ1 => ∃ l, ov = V.txt false l ∧ TArgs C args (fun vs σ2 => ∃ v ps, vs = [v] ∧ IsL σ2 v (ps.map (V.txt false)) ∧ (ps.map List.length).sum + ps.length * l.length ≤ 16777216 ∧ Q (V.txt false (joinS l ps)) σ2) X σ1) X σ)
    (hp : (backTo pos (starEach args C.env)).any (·.1) = false := by rfl) (hb : attributeBase e "join" C.env (eval e C.env) = eval e C.env := by rfl)
    (hf : methodCallForm (args.length + 0) (backTo pos (starEach args C.env)) [] = true := by rfl) (hl : (apos.endLine == pos.line) = true := by rfl) : TE C (.Call (.Attribute e "join" apos) args [] pos) Q X σ := by
  refine TE.meth (id := "str.join") (h.mono ?_) hp hb hf hl
  rintro ov σ1 ⟨l, rfl, h⟩
  refine ⟨Meth.str PySem.F.slot_str_join PySem.F.type_str_join, fun p z₀ => (h p z₀).mono ?_⟩
  rintro z xs σ2 _ ⟨vs, r, v, ps, rfl, k, hn, q⟩
  exact ⟨_, r, call_join_str k hn q⟩
end

/-- the value of `e` has this one -/
theorem Str1 : (("/" : Str)).cps.toList = [47] := by decide +kernel
theorem Str2 : ((".": Str)).cps.toList = [46] := by decide +kernel
theorem Str3 : (("" : Str)).cps.toList = [] := by decide +kernel
theorem Str4 : (("a" : Str)).cps.toList = [97] := by decide +kernel
theorem Str5 : ((".." : Str)).cps.toList = [46, 46] := by decide +kernel
theorem Str7 : (("..." : Str)).cps.toList = [46, 46, 46] := by decide +kernel
theorem Str10 : (("b" : Str)).cps.toList = [98] := by decide +kernel
theorem Byt1 : (([47] : List UInt8)).map UInt8.toNat = [47] := by decide +kernel
theorem Byt2 : (([46] : List UInt8)).map UInt8.toNat = [46] := by decide +kernel
theorem Byt3 : (([] : List UInt8)).map UInt8.toNat = [] := by decide +kernel
theorem Byt4 : (([46, 46] : List UInt8)).map UInt8.toNat = [46, 46] := by decide +kernel

abbrev BI : List Str := ["len", "ord", "chr", "abs", "min", "max", "sum", "isinstance", "issubclass", "sorted", "divmod", "range", "list", "tuple", "bytes", "str", "int", "bool", "type", "enumerate", "bytearray", "map", "iter"]
namespace BI
theorem len : bootBuiltins "len" = some (.builtin "len") := by kernel_rfl
theorem ord : bootBuiltins "ord" = some (.builtin "ord") := by kernel_rfl
theorem chr : bootBuiltins "chr" = some (.builtin "chr") := by kernel_rfl
theorem abs : bootBuiltins "abs" = some (.builtin "abs") := by kernel_rfl
theorem sum : bootBuiltins "sum" = some (.builtin "sum") := by kernel_rfl
theorem isinstance : bootBuiltins "isinstance" = some (.builtin "isinstance") := by kernel_rfl
theorem issubclass : bootBuiltins "issubclass" = some (.builtin "issubclass") := by kernel_rfl
theorem range : bootBuiltins "range" = some (.type "range") := by kernel_rfl
theorem list : bootBuiltins "list" = some (.type "list") := by kernel_rfl
theorem tuple : bootBuiltins "tuple" = some (.type "tuple") := by kernel_rfl
theorem bytes : bootBuiltins "bytes" = some (.type "bytes") := by kernel_rfl
theorem str : bootBuiltins "str" = some (.type "str") := by kernel_rfl
theorem bool : bootBuiltins "bool" = some (.type "bool") := by kernel_rfl
theorem type : bootBuiltins "type" = some (.type "type") := by kernel_rfl
end BI

theorem ite_t {c : Prop} [Decidable c] {A B : Prop} (h : c) (k : A) : if c then A else B := by rw [if_pos h]; exact k
theorem ite_f {c : Prop} [Decidable c] {A B : Prop} (h : ¬ c) (k : B) : if c then A else B := by rw [if_neg h]; exact k
theorem ite_b {c : Prop} [Decidable c] {A B : Prop} (h1 : c → A) (h2 : ¬ c → B) : if c then A else B := by
  by_cases h : c
  · rw [if_pos h]; exact h1 h
  · rw [if_neg h]; exact h2 h
theorem start1 {x : Str} {a : V} {H : Led} : Le ⟨[(x, a)], H⟩ ⟨bindV ([x].zip [a]) [], H⟩ := ⟨Lo.cons lk_hit Lo.nil, List.Sublist.refl _⟩
theorem start3 {x y z : Str} {a b c : V} {H : Led} (h : x ≠ y) (h2 : x ≠ z) (h3 : y ≠ z) : Le ⟨[(x, a), (y, b), (z, c)], H⟩ ⟨bindV ([x, y, z].zip [a, b, c]) [], H⟩ :=
  ⟨Lo.cons (lk_miss h2 (lk_miss h lk_hit)) (Lo.cons (lk_miss h3 lk_hit) (Lo.cons lk_hit Lo.nil)), List.Sublist.refl _⟩
/-- what is plain about a def -/
structure Plain (d : DefRec) : Prop where
  kind : d.scope.kind = .function
  co : d.scope.isCoroutine = false
  gen : d.scope.isGenerator = false
  pos : d.params.posonlyargs = []
  va : d.params.vararg = none
  ko : d.params.kwonlyargs = []
  kd : d.params.kw_defaults = []
  kw : d.params.kwarg = none
  df : d.params.defaults = []
  names : (d.params.args.map (·.arg)).all (fun x => d.scope.names.lookup x == some .local || d.scope.names.lookup x == some .cell) = true
  nodup : ((cellsFrom 0 d.scope.names []).map (·.1)).Nodup

theorem fn_of {g : Gd} {p : Program} {i : Nat} (P : Plain (recAt p i)) (hbind : ∀ (pm code doc : Value) (xs : List Value), xs.length = (parsAt p i).length → bindArgs (docDef (recAt p i).name (recAt p i).params (recAt p i).body (recAt p i).scope pm code doc) ⟨xs, []⟩ = pure ((parsAt p i).zip xs))
    (h : ∃ a o pm code doc, g.mg (recAt p i).name = some (.ref a) ∧ g.base.get? a = some o ∧ o.data = .func (docDef (recAt p i).name (recAt p i).params (recAt p i).body (recAt p i).scope pm code doc) ∧ g.base.CodeRec code (recAt p i).name) :
    ∃ a, Fn g p i a := by
  obtain ⟨a, o, pm, code, doc, h1, h2, h3, h4⟩ := h
  refine ⟨a, h1, _, ⟨o, h2, h3⟩, h4, rfl, rfl, rfl, rfl, rfl, P.kind, P.co, P.gen, hbind pm code doc, fun x hx => ?_, P.nodup⟩
  have := List.all_eq_true.mp P.names x hx
  simpa using this
def gdOf (prog : Program) (w : World) {p : Program} {loose : List Str} {mean : ExcName → Option Value} {mg mb : Str → Option Value} (s : Shared) (T : Top p loose mean mg mb s.heap) : Gd :=
  { prog := prog, w := w, base := s.heap, os := s.os, mg := mg, mb := mb, hmg := T.g, hmb := T.b, lim := T.nolimit, hbi := T.builtins }
theorem wellInts {P : Params} {h : Heap} : ∀ (xs : List Int) (vs : List Value), WellAll P h vs (ofPys (xs.map .int)) → RepL (fun a => h.get? a) (xs.map .int) vs := by
  intro xs
  induction xs with
  | nil => intro vs w; cases w; exact .nil
  | cons x xs ih =>
    intro vs w
    cases w with
    | cons a b => cases a; exact .cons (.int _ _) (ih _ b)
theorem finish {p : Program} {loose : List Str} {mean : ExcName → Option Value} {mg mb : Str → Option Value} {prog : Program} {w : World} {s : Shared} (T : Top p loose mean mg mb s.heap) (hg : s.gens = #[]) {fa l : Addr} {xs : List Int} {P : Params}
    (hw : Well P s.heap (.ref l) (ofPy (.list (xs.map .int)))) {c : ClaimW} {cl : Str → Option Addr} {mean' : ExcName → Option Value} {args : List WData}
    (main : CallT (gdOf prog w s T) 100 (.ref fa) [.lst (xs.map .int)] (fun v _ => v = .bool true) (fun _ _ => False) [])
    (hn : ∀ cls, c.raises args cls = false) (hp : c.post args (.bool true) args = true) : codeAny (model prog w) callerA (.call (.ref fa) ⟨[.ref l], []⟩) (GoodW c cl mean' args s) s := by
  have rh : RH (gdOf prog w s T) (fun _ => none) [] (fun a => s.heap.get? a) s :=
    ⟨fun _ _ e => e, fun _ _ e => e, fun _ _ e => (by cases e), fun _ _ e => (by cases e), fun _ h => (by cases h), List.nodup_nil, hg, rfl⟩
  have hl : Rep (fun a => s.heap.get? a) (.lst (xs.map .int)) (.ref l) := by
    cases hw with
    | list e ha => exact .lst (n := 0) e (wellInts _ _ ha)
  refine codeAny_mono (main callerA [] (fun _ => none) _ s _ (by decide +kernel) (by decide +kernel) rfl rfl ⟨fun e he => (by cases he)⟩ rh (.cons hl .nil)) ?_
  intro r s' hr
  cases r with
  | ok fl => cases fl with
    | ret val =>
      obtain ⟨z', H', v, lz, r', rv, rfl⟩ := hr
      cases rv
      exact ⟨.inl ⟨_, .bool true, [], rfl, hn, .bool true, hp, fun _ => ⟨List.nodup_nil, fun _ h => (by cases h)⟩⟩, fun b o e => r'.hz b o (r'.hbase b o e), r'.os, r'.gens⟩
    | _ => exact hr.elim
  | error e =>
    obtain ⟨_, _, _, _, _, f, _⟩ := hr
    exact f.no.elim
theorem free_of {p : Program} {loose : List Str} {mean : ExcName → Option Value} {mg mb : Str → Option Value} {prog : Program} {w : World} {s : Shared} (T : Top p loose mean mg mb s.heap)
    (key : ∀ x ∈ BI, x ∉ startupNames ∧ x ∉ loose ∧ x ∉ (recsOf p).map (·.name) ∧ x ∉ (litsOf p).map (·.1) ∧ x ∉ (clssOf p loose).map (·.name)) : Free (gdOf prog w s T) BI :=
  fun x hx => let ⟨a, b, c, d, e⟩ := key x hx; T.free x a b c d e
end PL

end
section
open PySem PySem.Calls PyProof.Rows
set_option Elab.async false
set_option linter.unusedVariables false
set_option linter.unusedSimpArgs false
set_option maxRecDepth 100000
namespace PL

theorem clip_nat (n k : Nat) : clipAt n (k : Int) = min k n := by
  unfold clipAt
  (repeat' split) <;> omega
theorem sl_to {α : Type} (l : List α) (j : Nat) : sl l none (some (j : Int)) = l.take j := by
  simp only [sl, Option.elim_none, Option.elim_some, List.drop_zero, clip_nat, Nat.sub_zero]
  by_cases h : j ≤ l.length
  · rw [Nat.min_eq_left h]
  · rw [Nat.min_eq_right (by omega), List.take_of_length_le (Nat.le_refl _), List.take_of_length_le (by omega)]
theorem sl_from {α : Type} (l : List α) (i : Nat) : sl l (some (i : Int)) none = l.drop i := by
  simp only [sl, Option.elim_none, Option.elim_some, clip_nat]
  by_cases h : i ≤ l.length
  · rw [Nat.min_eq_left h]; exact List.take_of_length_le (by simp)
  · rw [Nat.min_eq_right (by omega), List.drop_eq_nil_of_le (by omega), List.drop_eq_nil_of_le (by omega)]; simp
section
variable {C : Cx} {X : XP} {σ : St} {Q : V → St → Prop}
theorem TE.cut {P : V → St → Prop} {e : Expr} (h : TE C e P X σ) (k : ∀ v σ', P v σ' → Q v σ') : TE C e Q X σ := h.mono k
end
theorem joinS_nil : ∀ l : List Nat, joinS [] (l.map fun c => [c]) = l
  | [] => rfl
  | [c] => rfl
  | c :: d :: r => by
    show [c] ++ [] ++ joinS [] ((d :: r).map fun c => [c]) = _
    rw [joinS_nil (d :: r)]; rfl
theorem sum_ones (l : List Nat) : ((l.map fun c => [c]).map List.length).sum = l.length := by
  induction l with
  | nil => rfl
  | cons a r ih => simp only [List.map_cons, List.sum_cons, List.length_cons, ih, List.length_nil]; omega

section
variable {C : Cx} {X : XP} {σ : St} {Q : V → St → Prop}
end
theorem lf_nil {L' : List (Str × V)} {names : List (Str × NameKind)} : ∀ x u, ([] : List (Str × V)).lookup x = some u → L'.lookup x = some u ∧ (x, NameKind.free) ∈ names := fun _ _ h => by cases h
theorem filterMap_some {α β : Type} (l : List α) (f : α → β) : l.filterMap (fun x => some (f x)) = l.map f := by
  induction l with
  | nil => rfl
  | cons a r ih => simp
theorem Le.both {L : List (Str × V)} {H : Led} {σ : St} {x : Str} {v : V} (h : Le ⟨L, H⟩ σ) : Le ⟨PL.setL L x v, H⟩ ⟨PL.setL σ.loc x v, σ.H⟩ := ⟨h.loc.set, h.led⟩
section
variable {C : Cx} {X : XP} {σ : St}
end
end PL

end
section
open PySem PySem.Calls PyProof.Rows
set_option Elab.async false
set_option linter.unusedVariables false
set_option linter.unusedSimpArgs false
set_option maxRecDepth 100000
namespace PL

theorem strsFrom_rep {z : Z} : ∀ (ps : List (List Nat)) (tk : Nat), RepL z (ps.map (.txt false)) (strsFrom tk (ps.map strOf))
  | [], tk => .nil
  | p :: r, tk => .cons (.str p tk) (strsFrom_rep r (tk + 1))
section
variable {prog : Program} {w : World} {A : Around} {E : Value → Shared → Prop} {s : Shared} {l : List Nat} {c : Nat} {t u : Tok}
theorem call_str_split {Q : Value → Shared → Prop} (hn : l.length ≤ 10000000)
    (h : ∀ xs k, (∀ z, RepL z ((splitS c l).map (.txt false)) xs) → Q (.ref s.heap.objs.size) { s with heap := s.heap.push (lstO xs 0), toks := k }) :
    wpAny (model prog w) A (call (.builtin "str.split") [.str ⟨l.toArray⟩ t, .str ⟨#[c]⟩ u]) Q E s := by
  have hs := str_split l c
  have hx : (⟨l.toArray⟩ : Str).length ≤ sizeLine := by rw [strlen]; exact size_ok (by omega)
  have hy : ((⟨#[c]⟩ : Str).length == 0) = false := rfl
  by_cases h1 : (decide ((⟨l.toArray⟩ : Str).length < (⟨#[c]⟩ : Str).length) || decide (Builtin.Str.strKind ⟨l.toArray⟩ < Builtin.Str.strKind ⟨#[c]⟩)) = true
  · have e : (splitS c l).map strOf = [⟨l.toArray⟩] := by rw [← hs]; unfold Txt.split; rw [if_pos h1]
    refine call_meets PySem.F.slot_str_split (typeIs_str _ _ _) PySem.F.entry_str_split (PySem.F.args_str_split_2 _ _) (meets_str_split_cannot_occur _ _ t u h1) ?_
    refine h [.str ⟨l.toArray⟩ t] s.toks fun z => ?_
    have e2 : splitS c l = [l] := by
      match hsp : splitS c l with
      | [] => exact absurd hsp (splitS_ne c l)
      | [p] => rw [hsp] at e; simp [strOf] at e; rw [e]
      | p :: q :: r => rw [hsp] at e; simp at e
    rw [e2]; exact .cons (.str l t) .nil
  · have h1' := Bool.not_eq_true _ ▸ h1
    have h1' : (decide ((⟨l.toArray⟩ : Str).length < (⟨#[c]⟩ : Str).length) || decide (Builtin.Str.strKind ⟨l.toArray⟩ < Builtin.Str.strKind ⟨#[c]⟩)) = false := by simpa using h1
    cases hf : (Builtin.Str.occurrences ⟨l.toArray⟩ ⟨#[c]⟩ 0 (⟨l.toArray⟩ : Str).length ((⟨l.toArray⟩ : Str).length + 1)).isEmpty with
    | true =>
      have e : (splitS c l).map strOf = [⟨l.toArray⟩] := by rw [← hs]; unfold Txt.split; rw [if_neg h1, if_pos hf]
      refine call_meets PySem.F.slot_str_split (typeIs_str _ _ _) PySem.F.entry_str_split (PySem.F.args_str_split_2 _ _) (meets_str_split_not_found _ _ t u h1' hy hf) ?_
      refine h [.str ⟨l.toArray⟩ t] s.toks fun z => ?_
      have e2 : splitS c l = [l] := by
        match hsp : splitS c l with
        | [] => exact absurd hsp (splitS_ne c l)
        | [p] => rw [hsp] at e; simp [strOf] at e; rw [e]
        | p :: q :: r => rw [hsp] at e; simp at e
      rw [e2]; exact .cons (.str l t) .nil
    | false =>
      have e : Builtin.Str.partsBetween ⟨l.toArray⟩ (Builtin.Str.occurrences ⟨l.toArray⟩ ⟨#[c]⟩ 0 (⟨l.toArray⟩ : Str).length ((⟨l.toArray⟩ : Str).length + 1)) (⟨#[c]⟩ : Str).length = (splitS c l).map strOf := by
        rw [← hs]; unfold Txt.split; rw [if_neg h1, if_neg (by rw [hf]; decide)]
      refine call_meets PySem.F.slot_str_split (typeIs_str _ _ _) PySem.F.entry_str_split (PySem.F.args_str_split_2 _ _) (meets_str_split_sep _ _ t u h1' hy hf hx ?_) ?_
      · rw [e, List.length_map]
        exact size_ok (Nat.le_trans (splitS_length c l) (by omega))
      · rw [e]
        exact h _ _ fun z => strsFrom_rep (splitS c l) s.toks
end

section
variable {C : Cx} {X : XP} {σ : St} {Q : V → St → Prop}
theorem call_split {o : Bool} {l : List Nat} {c : Nat} (hn : l.length ≤ 10000000) (h : Q (.lst ((splitS c l).map (.txt o))) σ) : CallV C (.builtin (tyOf o ++ ".split")) [.txt o l, .txt o [c]] Q X σ := by
  refine CallV.toks fun z₀ zs z s xs hz hR r => ?_
  have fin : ∀ (ys : List Value) k, (∀ z, RepL z ((splitS c l).map (.txt o)) ys) →
      ∃ z' σ', Z.le z z' ∧ R C zs σ' z' { s with heap := s.heap.push (lstO ys 0), toks := k } ∧ PVal Q z' (.ref s.heap.objs.size) σ' := by
    intro ys k ry
    obtain ⟨R', le⟩ := hR.frozen (lstO ys 0) k
    exact ⟨_, _, le, R', _, .lst put_self (ry _), h⟩
  cases r with
  | cons r t => cases t with
    | cons r2 t =>
      cases t
      cases r with
      | str _ t => cases r2 with
        | str _ u => exact call_str_split hn fin
      | bytes _ t hl => cases r2 with
        | bytes _ u hc => exact call_bytes_split hl (hc c (by simp)) hn fin

/-- the last thing goes -/
theorem RepL.dropLast {z : Z} : ∀ {vs : List V} {xs : List Value}, RepL z vs xs → RepL z vs.dropLast xs.dropLast
  | _, _, .nil => .nil
  | _, _, .cons a .nil => .nil
  | _, _, .cons a (.cons b t) => by
    have := (RepL.cons b t).dropLast
    exact .cons a this
theorem call_append {a : Addr} {vs : List V} {v : V} {H' : Led} (hu : Upd a (.list vs) (.list (vs ++ [v])) σ.H H') (hn : vs.length ≤ 16777216) (h : Q .none ⟨σ.loc, H'⟩) : CallV C (.builtin "list.append") [.ref a, v] Q X σ := by
  refine CallV.toks fun z₀ zs z s xs hz hR r => ?_
  cases r with
  | cons r t => cases t with
    | cons r2 t =>
      cases t; cases r
      obtain ⟨⟨items, n, e, rl⟩, _⟩ := hR.rh.hH _ hu.mem
      refine wpAny_list_append_plain (items := items.toArray) ⟨n, e⟩ (fun h' hp hs => ?_) (by rw [List.size_toArray, rl.length]; exact size_ok hn)
      obtain ⟨k, hk⟩ := hp
      exact ⟨z, _, Z.le_refl _, hR.upd hu (t := s.toks) hs ⟨items ++ [_], k, by rw [hk]; simp [lstO], rl.append (.cons r2 .nil)⟩, _, .none, h⟩
theorem call_pop {a : Addr} {vs : List V} {v : V} {H' : Led} (hu : Upd a (.list vs) (.list vs.dropLast) σ.H H') (hn : vs.length ≤ 16777216) (hv : vs[vs.length - 1]? = some v) (h : Q v ⟨σ.loc, H'⟩) : CallV C (.builtin "list.pop") [.ref a] Q X σ := by
  refine CallV.toks fun z₀ zs z s xs hz hR r => ?_
  cases r with
  | cons r t =>
    cases t; cases r
    obtain ⟨⟨items, n, e, rl⟩, _⟩ := hR.rh.hH _ hu.mem
    obtain ⟨x, hx, rx⟩ := rl.get hv
    have hx' : items.toArray[items.toArray.size - 1]? = some x := by rw [List.size_toArray, rl.length]; simpa using hx
    have hpos : items.length ≠ 0 := by
      rw [rl.length]; intro e0; rw [e0] at hv
      have := List.length_eq_zero_iff.mp e0
      subst this; cases hv
    have ee : items.toArray.eraseIdxIfInBounds (items.toArray.size - 1) = items.dropLast.toArray := by
      have : ∀ l : List Value, l.eraseIdx (l.length - 1) = l.dropLast := by
        intro l
        induction l with
        | nil => rfl
        | cons a r ih => cases r with
          | nil => rfl
          | cons b r => simpa using ih
      rw [List.size_toArray, ← this]
      unfold Array.eraseIdxIfInBounds
      rw [dif_pos (by simp; omega)]
      simp
    obtain ⟨n', e2⟩ : ∃ n', Obj.mapSeq (fun xs => xs.eraseIdxIfInBounds (items.toArray.size - 1)) (lstO items n) = lstO items.dropLast n' := by
      refine ⟨if (items.toArray.eraseIdxIfInBounds (items.toArray.size - 1)).size = items.toArray.size then n else n + 1, ?_⟩
      simp only [Obj.mapSeq, lstO, ee, beq_iff_eq]
    refine call_meets PySem.F.slot_list_pop ⟨_, e, rfl⟩ PySem.F.entry_list_pop (PySem.F.args_list_pop_1 _) (PySem.MeetsSeq.list_pop_last a items.toArray n x hx' (by rw [List.size_toArray, rl.length]; exact size_ok hn)) ⟨e, ?_⟩
    refine ⟨z, _, Z.le_refl _, hR.upd hu (t := s.toks) (Heap.SameBut.update ..) ⟨items.dropLast, n', ?_, rl.dropLast⟩, _, rx, h⟩
    rw [Heap.get?_update_self _ e (by rw [e2]; rfl), e2]

/-! methods of a list -/
theorem TE.appendM {e : Expr} {args : List Expr} {apos pos : Pos} (h : TE C e (fun ov σ1 => ∃ a vs, ov = .ref a ∧ (a, AO.list vs) ∈ σ1.H ∧ TArgs C args (fun us σ2 => ∃ v vs' H', us = [v] ∧ Upd a (.list vs') (.list (vs' ++ [v])) σ2.H H' ∧ vs'.length ≤ 16777216 ∧ Q .none ⟨σ2.loc, H'⟩) X σ1) X σ)
    (hp : (backTo pos (starEach args C.env)).any (·.1) = false := by rfl) (hb : attributeBase e "append" C.env (eval e C.env) = eval e C.env := by rfl)
    (hf : methodCallForm (args.length + 0) (backTo pos (starEach args C.env)) [] = true := by rfl) (hl : (apos.endLine == pos.line) = true := by rfl) : TE C (.Call (.Attribute e "append" apos) args [] pos) Q X σ := by
  refine TE.meth (id := "list.append") (h.mono ?_) hp hb hf hl
  rintro ov σ1 ⟨a, vs, rfl, hm, h⟩
  refine ⟨Meth.list (.mt hm) PySem.F.slot_list_append PySem.F.type_list_append, fun p z₀ => (h p z₀).mono ?_⟩
  rintro z xs σ2 _ ⟨us, r, v, vs', H', rfl, hu, hn, q⟩
  exact ⟨_, r, call_append hu hn q⟩
theorem TE.popM {e : Expr} {apos pos : Pos} (h : TE C e (fun ov σ1 => ∃ a vs v H', ov = .ref a ∧ Upd a (.list vs) (.list vs.dropLast) σ1.H H' ∧ vs.length ≤ 16777216 ∧ vs[vs.length - 1]? = some v ∧ Q v ⟨σ1.loc, H'⟩) X σ)
    (hb : attributeBase e "pop" C.env (eval e C.env) = eval e C.env := by rfl) (hl : (apos.endLine == pos.line) = true := by rfl) : TE C (.Call (.Attribute e "pop" apos) [] [] pos) Q X σ := by
  refine TE.meth (id := "list.pop") (h.mono ?_) rfl hb rfl hl
  rintro ov σ1 ⟨a, vs, v, H', rfl, hu, hn, hv, q⟩
  exact ⟨Meth.list (.mt hu.mem) PySem.F.slot_list_pop PySem.F.type_list_pop, TArgs.nil (call_pop hu hn hv q)⟩
theorem TE.split (o : Bool) {e : Expr} {args : List Expr} {apos pos : Pos} (h : TE C e (fun ov σ1 => ∃ l, ov = .txt o l ∧ TArgs C args (fun vs σ2 => ∃ c, vs = [.txt o [c]] ∧ l.length ≤ 10000000 ∧ Q (.lst ((splitS c l).map (.txt o))) σ2) X σ1) X σ)
    (hp : (backTo pos (starEach args C.env)).any (·.1) = false := by rfl) (hb : attributeBase e "split" C.env (eval e C.env) = eval e C.env := by rfl)
    (hf : methodCallForm (args.length + 0) (backTo pos (starEach args C.env)) [] = true := by rfl) (hl : (apos.endLine == pos.line) = true := by rfl) : TE C (.Call (.Attribute e "split" apos) args [] pos) Q X σ := by
  refine TE.meth (id := tyOf o ++ ".split") (h.mono ?_) hp hb hf hl
  rintro ov σ1 ⟨l, rfl, h⟩
  refine ⟨Meth.split, fun p z₀ => (h p z₀).mono ?_⟩
  rintro z xs σ2 _ ⟨vs, r, c, rfl, hn, q⟩
  exact ⟨_, r, call_split hn q⟩

/-! unpacking -/
def TIn (C : Cx) (ts : List Expr) (vs : List V) (Q : St → Prop) (X : XP) (σ : St) : Prop := ∀ z₀ xs, RepL z₀ vs xs → TT C z₀ (assignInOrder ((assignEach ts C.env).map (·.2)) xs) (fun _ _ σ' => Q σ') X σ
theorem TIn.nil {Q : St → Prop} (h : Q σ) : TIn C [] [] Q X σ := fun z₀ xs r => by cases r; exact TT.pure fun _ _ => h
theorem TIn.cons {t : Expr} {ts : List Expr} {v : V} {vs : List V} {Q : St → Prop} (h : TAs C t v (fun σ1 => TIn C ts vs Q X σ1) X σ)
    (he : assignEach (t :: ts) C.env = (false, assign t C.env) :: assignEach ts C.env := by rfl) : TIn C (t :: ts) (v :: vs) Q X σ := by
  intro z₀ xs r
  cases r with
  | cons rv rt =>
    rw [he]
    show TT C z₀ (do holding _ (assign t C.env _); assignInOrder ((assignEach ts C.env).map (·.2)) _) _ X σ
    refine TT.bind (TT.holding (TT.mono (h z₀ _ rv) ?_))
    rintro z ⟨⟩ σ1 l h1
    exact h1 z _ (rt.mono l)
theorem TAs.tuple {ts : List Expr} {k : Nat} {p : Pos} {vs : List V} {Q : St → Prop} (hh : C.A.handled = none) (hn : ts.length = vs.length) (h : TIn C ts vs Q X σ)
    (he : (assignEach ts C.env).length = ts.length := by rfl) (hstar : (assignEach ts C.env).findIdx? (·.1) = none := by rfl) : TAs C (.Tuple ts k p) (.tup vs) Q X σ := by
  intro z₀ x r zs z s hz hR
  obtain ⟨a, items, n, rfl, e, rl⟩ := rep_tupO (r.mono hz) hR
  refine wpAny_assign_Tuple hh (isTuple_of e) (by rw [he, hn, List.size_toArray, rl.length]) hstar fun h' hx => ?_
  have R' : R C zs σ z { s with heap := h' } := hR.grow (t := s.toks) fun b o eb => hx b o (Nat.ne_of_lt (Heap.lt_size eb)) eb
  exact h z _ rl zs z _ (Z.le_refl _) R'
theorem TS.assignTo {t e : Expr} {p : Pos} {Q : Fl → St → Prop} (h : TE C e (fun v σ1 => TAs C t v (fun σ2 => Q .next σ2) X σ1) X σ)
    (he : (assignEach [t] C.env).map (·.2) = [PySem.assign t C.env] := by rfl) (hs : swapsWithSole [t] e p.line C.env = Pure.pure false := by rfl) (hw : swappedStores [t] e C.env = Pure.pure none := by rfl) : TS C (.Assign [t] e p) Q X σ := by
  intro z₀ zs z s hz hR
  refine wpAny_Assign_stores ?_ hs hw
  refine wpAny_mono (h z₀ zs z s hz hR) ?_ fun _ _ x => x
  rintro v s1 ⟨z1, σ1, l1, R1, u, ru, h1⟩
  rw [he]
  refine wpAny_mono (h1 z1 v ru zs z1 s1 (Z.le_refl _) R1) ?_ fun _ _ x => PX.le l1 x
  rintro ⟨⟩ s2 ⟨z2, σ2, l2, R2, q⟩
  exact ⟨z2, σ2, Z.le_trans l1 l2, R2, .next, .next, q⟩
end
end PL

end
section
open PySem PySem.Calls PyProof.Rows
set_option Elab.async false
set_option linter.unusedVariables false
set_option linter.unusedSimpArgs false
set_option maxRecDepth 100000
namespace PL
theorem sl_toL {α : Type} (l : List α) (j : Int) (n : Nat) (h : j = (n : Int)) : sl l none (some j) = l.take n := by rw [h, sl_to]
theorem sl_fromL {α : Type} (l : List α) (j : Int) (n : Nat) (h : j = (n : Int)) : sl l (some j) none = l.drop n := by rw [h, sl_from]
theorem sl_12 {α : Type} (l : List α) (i j : Int) (n : Nat) (h : i = (n : Int)) (h2 : j = ((n + 1 : Nat) : Int)) : sl l (some i) (some j) = (l.drop n).take 1 := by
  subst h; subst h2
  simp only [sl, Option.elim_some, clip_nat]
  by_cases hn : n < l.length
  · rw [Nat.min_eq_left (show n ≤ l.length by omega), Nat.min_eq_left (show n + 1 ≤ l.length by omega), Nat.add_sub_cancel_left]
  · rw [Nat.min_eq_right (show l.length ≤ n by omega), List.drop_eq_nil_of_le (Nat.le_refl _), List.drop_eq_nil_of_le (by omega)]; simp
section
variable {C : Cx} {X : XP} {σ : St}
theorem TS.cut {st : Stmt} {P Q : Fl → St → Prop} (h : TS C st P X σ) (k : ∀ f σ', P f σ' → Q f σ') : TS C st Q X σ := fun z₀ => (h z₀).mono fun z f σ' _ ⟨fl, r, q⟩ => ⟨fl, r, k _ _ q⟩
theorem TB.cut {e : Expr} {P Q : Bool → St → Prop} (h : TB C e P X σ) (k : ∀ f σ', P f σ' → Q f σ') : TB C e Q X σ := h.mono k
end
/-! what the path functions answer -/
/-- how many slashes make the root -/
def rootN (l : List Nat) : Nat := if l.take 1 = [47] then (if (l.drop 1).take 1 = [47] ∧ (l.drop 2).take 1 ≠ [47] then 2 else 1) else 0
theorem rootN_le (l : List Nat) : rootN l ≤ 2 := by unfold rootN; (repeat' split) <;> omega
theorem rootN_take (l : List Nat) : l.take (rootN l) = List.replicate (rootN l) 47 := by
  unfold rootN
  by_cases h1 : l.take 1 = [47]
  · rw [if_pos h1]
    by_cases h2 : (l.drop 1).take 1 = [47] ∧ (l.drop 2).take 1 ≠ [47]
    · rw [if_pos h2]
      match l, h1, h2 with
      | [], h1, _ => simp at h1
      | [a], _, h2 => simp at h2
      | a :: b :: r, h1, h2 => simp at h1 h2; simp [h1, h2.1, List.replicate]
    · rw [if_neg h2, h1]; rfl
  · rw [if_neg h1]; simp
/-- what is left when the empty, dot and double dot pieces are worked off -/
def stepN (r : Nat) (acc : List (List Nat)) (c : List Nat) : List (List Nat) :=
  if c = [] ∨ c = [46] then acc
  else if c ≠ [46, 46] ∨ (r = 0 ∧ acc = []) ∨ (acc ≠ [] ∧ acc[acc.length - 1]? = some [46, 46]) then acc ++ [c]
  else acc.dropLast
def normC (r : Nat) (cs : List (List Nat)) : List (List Nat) := cs.foldl (stepN r) []
def normS (l : List Nat) : List Nat :=
  if l = [] then [46] else
    let path := List.replicate (rootN l) 47 ++ joinS [47] (normC (rootN l) (splitS 47 (l.drop (rootN l))))
    if path = [] then [46] else path
theorem stepN_length (r : Nat) (acc : List (List Nat)) (c : List Nat) : (stepN r acc c).length ≤ acc.length + 1 := by
  unfold stepN
  (repeat' split) <;> simp <;> omega
def sumL (ps : List (List Nat)) : Nat := (ps.map List.length).sum
theorem sumL_append (a b : List (List Nat)) : sumL (a ++ b) = sumL a + sumL b := by simp [sumL]
theorem sumL_dropLast (a : List (List Nat)) : sumL a.dropLast ≤ sumL a := by
  induction a with
  | nil => simp [sumL]
  | cons x r ih =>
    cases r with
    | nil => simp [sumL]
    | cons y r => simp only [List.dropLast_cons_of_ne_nil (List.cons_ne_nil y r)]; simp [sumL] at ih ⊢; omega
theorem stepN_sum (r : Nat) (acc : List (List Nat)) (c : List Nat) : sumL (stepN r acc c) ≤ sumL acc + c.length := by
  unfold stepN
  split
  · omega
  · split
    · rw [sumL_append]; simp [sumL]
    · have := sumL_dropLast acc; omega
theorem fold_bounds (r : Nat) : ∀ (cs acc : List (List Nat)), (cs.foldl (stepN r) acc).length ≤ acc.length + cs.length ∧ sumL (cs.foldl (stepN r) acc) ≤ sumL acc + sumL cs
  | [], acc => ⟨Nat.le_refl _, Nat.le_add_right _ _⟩
  | c :: cs, acc => by
    obtain ⟨h1, h2⟩ := fold_bounds r cs (stepN r acc c)
    have h3 := stepN_length r acc c
    have h4 := stepN_sum r acc c
    refine ⟨by rw [List.foldl_cons, List.length_cons]; omega, ?_⟩
    rw [List.foldl_cons]
    have : sumL (c :: cs) = c.length + sumL cs := by simp [sumL]
    omega
theorem splitS_sum (c : Nat) : ∀ l : List Nat, sumL (splitS c l) ≤ l.length
  | [] => by simp [splitS, sumL]
  | x :: r => by
    have ih := splitS_sum c r
    unfold splitS
    by_cases h : x = c
    · rw [if_pos h]; simp [sumL] at ih ⊢; omega
    · rw [if_neg h]
      cases hs : splitS c r with
      | nil => simp [sumL]
      | cons p ps => rw [hs] at ih; simp [sumL] at ih ⊢; omega
theorem normC_take {r : Nat} {cs : List (List Nat)} {i : Nat} {c : List Nat} (h : cs[i]? = some c) : normC r (cs.take (i + 1)) = stepN r (normC r (cs.take i)) c := by
  unfold normC
  rw [List.take_add_one, h, List.foldl_append]; rfl
end PL

end
section
open PySem PySem.Calls PyProof.Rows
set_option Elab.async false
set_option linter.unusedVariables false
set_option linter.unusedSimpArgs false
set_option maxRecDepth 100000
namespace PL
section
variable {C : Cx} {X : XP} {σ : St} {Q : V → St → Prop}
/-- two lists, one behind the other: a new one, frozen -/
theorem Bin.add_list {v w : V} {vs ws : List V} (k : IsL σ v vs) (k2 : IsL σ w ws) (hn : vs.length + ws.length ≤ 16777216) (h : Q (.lst (vs ++ ws)) σ) : Bin C .Add v w Q X σ := by
  intro z₀ x y rx ry zs z s hz hR
  obtain ⟨a, items, n, rfl, p, q⟩ := k.obj rx hz hR
  obtain ⟨b, items2, n2, rfl, p2, q2⟩ := k2.obj ry hz hR
  refine PySem.P.add_list (n := n) (n2 := n2) p p2 ?_ (by rw [List.size_toArray, List.size_toArray, q.length, q2.length]; exact size_ok hn)
  rw [List.append_toArray]
  obtain ⟨R', le⟩ := hR.frozen (lstO (items ++ items2) 0) s.toks
  exact ⟨_, _, le, R', _, .lst put_self ((q.append q2).mono le), h⟩

theorem readsL {v : V} {vs : List V} (k : IsL σ v vs) {z₀ z zs : Z} {s : Shared} {x : Value} (r : Rep z₀ v x) (hz : Z.le z₀ z) (hR : R C zs σ z s) (p : plainVs vs = true) : ∃ as, Reads s.heap x (.list (toDs vs)) as := by
  obtain ⟨a, items, n, rfl, e, q⟩ := k.obj r hz hR
  obtain ⟨as, ra⟩ := reads_ofs hR.rh.hz q p
  exact ⟨_, .list e rfl rfl (by simpa using ra)⟩
end
end PL

end
section
open PySem PySem.Calls PyProof.Rows
set_option Elab.async false
set_option linter.unusedVariables false
set_option linter.unusedSimpArgs false
namespace PL
/-! plain laws of normpath -/
def outS (r : Nat) (cs : List (List Nat)) : List Nat := if List.replicate r 47 ++ joinS [47] cs = [] then [46] else List.replicate r 47 ++ joinS [47] cs
theorem splitS_slash (c : Nat) (l : List Nat) : splitS c (c :: l) = [] :: splitS c l := by
  show (if c = c then _ else _) = _
  rw [if_pos rfl]
theorem splitS_rep (c : Nat) (l : List Nat) : ∀ s : Nat, splitS c (List.replicate s c ++ l) = List.replicate s [] ++ splitS c l
  | 0 => rfl
  | s + 1 => by rw [List.replicate_succ, List.cons_append, splitS_slash, splitS_rep c l s, List.replicate_succ, List.cons_append]
theorem step_nil (r : Nat) (acc : List (List Nat)) : stepN r acc [] = acc := by unfold stepN; rw [if_pos (.inl rfl)]
theorem step_dot (r : Nat) (acc : List (List Nat)) : stepN r acc [46] = acc := by unfold stepN; rw [if_pos (.inr rfl)]
theorem normC_rep (r : Nat) (ps : List (List Nat)) : ∀ k : Nat, normC r (List.replicate k [] ++ ps) = normC r ps
  | 0 => rfl
  | k + 1 => by
    have ih := normC_rep r ps k
    unfold normC at ih ⊢
    rw [List.replicate_succ, List.cons_append, List.foldl_cons, step_nil, ih]
theorem normS_eq (l : List Nat) : normS l = outS (rootN l) (normC (rootN l) (splitS 47 l)) := by
  have hs : splitS 47 l = List.replicate (rootN l) [] ++ splitS 47 (l.drop (rootN l)) := by
    conv => lhs; rw [← List.take_append_drop (rootN l) l, rootN_take]
    rw [splitS_rep]
  rw [hs, normC_rep]
  unfold normS
  by_cases h : l = []
  · subst h; rfl
  · rw [if_neg h]; rfl
theorem normC_split_join (r : Nat) (ps : List (List Nat)) (h : ∀ p ∈ ps, 47 ∉ p) : normC r (splitS 47 (joinS [47] ps)) = normC r ps := by
  cases ps with
  | nil => show normC r [[]] = []; unfold normC; rw [List.foldl_cons, step_nil]; rfl
  | cons p q => rw [splitS_join 47 (p :: q) (by simp) h]
def leadN (l : List Nat) : Nat := (l.takeWhile (· == 47)).length
theorem rootN_lead (l : List Nat) : rootN l = if leadN l = 2 then 2 else if 0 < leadN l then 1 else 0 := by
  match l with
  | [] => rfl
  | [a] =>
    by_cases ha : a = 47
    · subst ha; rfl
    · simp [rootN, leadN, ha]
  | [a, b] =>
    by_cases ha : a = 47
    · subst ha
      by_cases hb : b = 47
      · subst hb; rfl
      · simp [rootN, leadN, hb]
    · simp [rootN, leadN, ha]
  | a :: b :: c :: t =>
    by_cases ha : a = 47
    · subst ha
      by_cases hb : b = 47
      · subst hb
        by_cases hc : c = 47
        · subst hc; simp [rootN, leadN]
        · simp [rootN, leadN, hc]
      · simp [rootN, leadN, hb]
    · simp [rootN, leadN, ha]
end PL

end
section
open PySem PySem.Calls PyProof.Rows
set_option Elab.async false
set_option linter.unusedVariables false
set_option linter.unusedSimpArgs false
set_option maxRecDepth 100000
namespace PL
section
variable {C : Cx} {X : XP} {σ : St}
end
end PL

end
section
open PySem PySem.Calls PyProof.Rows
set_option Elab.async false
set_option linter.unusedVariables false
set_option linter.unusedSimpArgs false
set_option maxRecDepth 100000
namespace PL
section
variable {K : Type} [DecidableEq K]
def vAt (kvs : List (K × V)) (k : K) : Option V := (kvs.find? fun kv => kv.1 = k).map (·.2)
def vPut (kvs : List (K × V)) (k : K) (v : V) : List (K × V) := if kvs.any (fun kv => kv.1 = k) then kvs.map (fun kv => if kv.1 = k then (kv.1, v) else kv) else kvs ++ [(k, v)]
theorem RepP.any {z : Z} {l : List (K × V)} {m : List (K × Value)} (r : RepP z l m) (k : K) : (l.any fun kv => kv.1 = k) = m.any fun kv => kv.1 = k := by
  induction r with
  | nil => rfl
  | cons a _ ih => simp only [List.any_cons, ih]
theorem RepP.at {z : Z} {l : List (K × V)} {m : List (K × Value)} (r : RepP z l m) (k : K) : (vAt l k = none ∧ valueAt m k = none) ∨ ∃ v x, vAt l k = some v ∧ valueAt m k = some x ∧ Rep z v x := by
  induction r with
  | nil => exact .inl ⟨rfl, rfl⟩
  | @cons k' v x l m a t ih =>
    unfold vAt valueAt at ih ⊢
    by_cases h : k' = k
    · exact .inr ⟨v, x, by simp [h], by simp [h], a⟩
    · simpa [List.find?_cons, h] using ih
theorem RepP.putm {z : Z} {l : List (K × V)} {m : List (K × Value)} (r : RepP z l m) (k : K) {v : V} {x : Value} (rv : Rep z v x) : RepP z (l.map fun e => if e.1 = k then (e.1, v) else e) (m.map fun e => if e.1 = k then (e.1, x) else e) := by
  induction r with
  | nil => exact .nil
  | @cons k' v' x' l m a t ih =>
    by_cases h : k' = k
    · subst h; simpa only [List.map_cons, if_pos] using RepP.cons rv ih
    · simpa only [List.map_cons, if_neg h] using RepP.cons a ih
theorem RepP.puta {z : Z} {l : List (K × V)} {m : List (K × Value)} (r : RepP z l m) (k : K) {v : V} {x : Value} (rv : Rep z v x) : RepP z (l ++ [(k, v)]) (m ++ [(k, x)]) := by
  induction r with
  | nil => exact .cons rv .nil
  | cons a t ih => exact .cons a ih
theorem RepP.put {z : Z} {l : List (K × V)} {m : List (K × Value)} (r : RepP z l m) (k : K) {v : V} {x : Value} (rv : Rep z v x) : RepP z (vPut l k v) (stored m k x) := by
  unfold vPut stored
  rw [r.any k]
  split
  · exact r.putm k rv
  · exact r.puta k rv
theorem RepP.length {z : Z} {l : List (K × V)} {m : List (K × Value)} (r : RepP z l m) : m.length = l.length := by
  induction r with
  | nil => rfl
  | cons a _ ih => simp [ih]
end

section
variable {C : Cx} {X : XP} {σ : St} {Q : V → St → Prop} {K : Type} [DecidableEq K] {a : Addr} {kvs : List (K × V)} {knd : KeyKind C.g.prog C.g.w K} {kv : V} {k : K}
structure DL (C : Cx) (σ : St) (a : Addr) {K : Type} [DecidableEq K] (knd : KeyKind C.g.prog C.g.w K) (kvs : List (K × V)) : Prop where
  get : ∀ zs z s, R C zs σ z s → ∃ ys, s.heap.DictOf knd a ys ∧ RepP z kvs ys ∧ (a == sysModules) = false
def KeyV (C : Cx) {K : Type} [DecidableEq K] (knd : KeyKind C.g.prog C.g.w K) (v : V) (k : K) : Prop := ∀ z x, Rep z v x → knd.is k x = true
theorem DL.str {kvs : List (Str × V)} (h : (a, AO.dictS kvs) ∈ σ.H) : DL C σ a (PySem.strKind C.g.prog C.g.w) kvs := ⟨fun zs z s hR => (hR.rh.hH _ h).1⟩
theorem DL.int {kvs : List (Int × V)} (h : (a, AO.dictI kvs) ∈ σ.H) : DL C σ a (PySem.intKind C.g.prog C.g.w) kvs := ⟨fun zs z s hR => (hR.rh.hH _ h).1⟩
theorem KeyV.str {l : List Nat} : KeyV C (PySem.strKind C.g.prog C.g.w) (.txt false l) (strOf l) := by
  intro z x r; cases r; simp [PySem.strKind, Value.isStrOf, strOf]
theorem KeyV.int {i : Int} : KeyV C (PySem.intKind C.g.prog C.g.w) (.int i) i := by
  intro z x r; cases r; simp [PySem.intKind, Value.isInt]
theorem Cmp.notInD (d : DL C σ a knd kvs) (hk : KeyV C knd kv k) (h : Q (.bool (!(vAt kvs k).isSome)) σ) : Cmp C .NotIn kv (.ref a) Q X σ := by
  rintro z₀ x _ rx ⟨⟩ zs z s hz hR
  obtain ⟨ys, hd, rp, hs⟩ := d.get zs z s hR
  refine wpAny_notIn_of (hk _ _ rx) hs hd.mapOf ?_
  rcases rp.at k with ⟨e1, e2⟩ | ⟨v, y, e1, e2, _⟩
  · rw [e2]; rw [e1] at h; exact PVal.toks hR (.bool _) h
  · rw [e2]; rw [e1] at h; exact PVal.toks hR (.bool _) h
theorem Get.dict (d : DL C σ a knd kvs) (hk : KeyV C knd kv k) {v : V} (hv : vAt kvs k = some v) (h : Q v σ) : Get C (.ref a) kv Q X σ := by
  rintro z₀ _ y ⟨⟩ ry zs z s hz hR
  obtain ⟨ys, hd, rp, hs⟩ := d.get zs z s hR
  rcases rp.at k with ⟨e1, e2⟩ | ⟨v', x, e1, e2, rv⟩
  · rw [e1] at hv; cases hv
  · rw [e1] at hv; cases hv
    exact wpAny_getItem_of (hk _ _ ry) hd.mapOf e2 (PVal.toks hR rv h)
theorem Item.dict (d : DL C σ a knd kvs) (hk : KeyV C knd kv k) {v : V} (hv : vAt kvs k = some v) (h : Q v σ) : Item C (.ref a) kv Q X σ := by
  rintro value slice z₀ _ y ⟨⟩ ry zs z s hz hR
  obtain ⟨ys, hd, rp, hs⟩ := d.get zs z s hR
  exact tail_of hd.typeIs slot_dict_getitem.lookup rfl (Get.dict d hk hv h z₀ _ y (.ref a) ry zs z s hz hR)
theorem Put.dictS {Q : St → Prop} {kvs : List (Str × V)} {l : List Nat} {v : V} {H' : Led} (hu : Upd a (.dictS kvs) (.dictS (vPut kvs (strOf l) v)) σ.H H') (hn : kvs.length ≤ 16777216) (h : Q ⟨σ.loc, H'⟩) : Put C (.ref a) (.txt false l) v Q X σ := by
  rintro z₀ _ y u ⟨⟩ ry ru zs z s hz hR
  obtain ⟨ys, hd, rp, hs⟩ := (DL.str (C := C) hu.mem).get zs z s hR
  refine wpAny_setItem_pairs (KeyV.str (C := C) _ _ ry) hd (fun h' hd' hsb => ?_) (by rw [rp.length]; exact size_ok hn)
  exact ⟨z, _, Z.le_refl _, hR.upd hu hsb ⟨_, hd', rp.put _ (ru.mono hz), hs⟩, h⟩
theorem Put.dictI {Q : St → Prop} {kvs : List (Int × V)} {i : Int} {v : V} {H' : Led} (hu : Upd a (.dictI kvs) (.dictI (vPut kvs i v)) σ.H H') (hn : kvs.length ≤ 16777216) (h : Q ⟨σ.loc, H'⟩) : Put C (.ref a) (.int i) v Q X σ := by
  rintro z₀ _ y u ⟨⟩ ry ru zs z s hz hR
  obtain ⟨ys, hd, rp, hs⟩ := (DL.int (C := C) hu.mem).get zs z s hR
  refine wpAny_setItem_pairs (KeyV.int (C := C) _ _ ry) hd (fun h' hd' hsb => ?_) (by rw [rp.length]; exact size_ok hn)
  exact ⟨z, _, Z.le_refl _, hR.upd hu hsb ⟨_, hd', rp.put _ (ru.mono hz), hs⟩, h⟩
/-- `o[i] = v` -/
theorem TS.assignSub {o i e : Expr} {p' p : Pos} {Q : Fl → St → Prop} (h : TE C e (fun v σ1 => TE C o (fun ov σ2 => TE C i (fun iv σ3 => Put C ov iv v (fun σ4 => Q .next σ4) X σ3) X σ2) X σ1) X σ)
    (hs : swapsWith e (some (.Subscript o i p')) p.line C.env = Pure.pure false := by rfl) : TS C (.Assign [.Subscript o i p'] e p) Q X σ := by
  intro z₀ zs z s hz hR
  refine wpAny_Assign_Subscript ?_ hs
  refine wpAny_mono (h z₀ zs z s hz hR) ?_ fun _ _ x => x
  rintro v s1 ⟨z1, σ1, l1, R1, vv, rv, h1⟩
  refine wpAny_mono (h1 z1 zs z1 s1 (Z.le_refl _) R1) ?_ fun _ _ x => PX.le l1 x
  rintro ov s2 ⟨z2, σ2, l2, R2, vo, ro, h2⟩
  refine wpAny_mono (h2 z2 zs z2 s2 (Z.le_refl _) R2) ?_ fun _ _ x => PX.le (Z.le_trans l1 l2) x
  rintro iv s3 ⟨z3, σ3, l3, R3, vi, ri, h3⟩
  refine wpAny_mono (h3 z3 ov iv v (ro.mono l3) ri (rv.mono (Z.le_trans l2 l3)) zs z3 s3 (Z.le_refl _) R3) ?_ fun _ _ x => PX.le (Z.le_trans (Z.le_trans l1 l2) l3) x
  rintro ⟨⟩ s4 ⟨z4, σ4, l4, R4, q⟩
  exact ⟨z4, σ4, Z.le_trans (Z.le_trans (Z.le_trans l1 l2) l3) l4, R4, .next, .next, q⟩
theorem fresh_big {zs z : Z} {s : Shared} (hR : R C zs σ z s) : (s.heap.objs.size == sysModules) = false := by
  obtain ⟨o, es, ep, e, _⟩ := C.g.hmg
  have := Heap.lt_size (hR.rh.base _ _ e)
  have h3 : (3 : Nat) < s.heap.objs.size := this
  have : s.heap.objs.size ≠ 1 := by omega
  exact beq_eq_false_iff_ne.mpr this
theorem TE.dictS {p : Pos} (h : ∀ b, Q (.ref b) ⟨σ.loc, (b, .dictS []) :: σ.H⟩) : TE C (.Dict [] [] p) Q X σ := by
  intro z₀ zs z s hz hR
  refine wpAny_Dict_empty ?_
  have R' := hR.push' { cls := .type "dict", data := .dict #[] }
  exact ⟨z, _, Z.le_refl _, R'.ledger (a := s.heap.objs.size) (o := .dictS []) ⟨[], Heap.DictOf.new _, .nil, fresh_big hR⟩ (hR.rh.fresh_z (Nat.le_refl _)) (hR.apart_new (Nat.le_refl _)), _, .ref _, h _⟩
theorem TE.dictI {p : Pos} (h : ∀ b, Q (.ref b) ⟨σ.loc, (b, .dictI []) :: σ.H⟩) : TE C (.Dict [] [] p) Q X σ := by
  intro z₀ zs z s hz hR
  refine wpAny_Dict_empty ?_
  have R' := hR.push' { cls := .type "dict", data := .dict #[] }
  exact ⟨z, _, Z.le_refl _, R'.ledger (a := s.heap.objs.size) (o := .dictI []) ⟨[], Heap.DictOf.new _, .nil, fresh_big hR⟩ (hR.rh.fresh_z (Nat.le_refl _)) (hR.apart_new (Nat.le_refl _)), _, .ref _, h _⟩
end
end PL

end
section
open PySem PySem.Calls PyProof.Rows
set_option Elab.async false
set_option linter.unusedVariables false
set_option linter.unusedSimpArgs false
set_option linter.unusedSectionVars false
set_option maxRecDepth 100000
namespace PL
/-! a live list is frozen -/
inductive Rem (a : Addr) (o : AO) : Led → Led → Prop
  | head {t : Led} : Rem a o ((a, o) :: t) t
  | tail {p : Addr × AO} {t t' : Led} (h : Rem a o t t') : Rem a o (p :: t) (p :: t')
theorem Rem.mem {a : Addr} {o : AO} {H H' : Led} (u : Rem a o H H') : (a, o) ∈ H := by
  induction u with
  | head => exact List.mem_cons_self
  | tail _ ih => exact List.mem_cons_of_mem _ ih
theorem Rem.sub {a : Addr} {o : AO} {H H' : Led} (u : Rem a o H H') : H'.Sublist H := by
  induction u with
  | head => exact List.sublist_cons_self _ _
  | tail _ ih => exact ih.cons_cons _
theorem Rem.out {a : Addr} {o : AO} {H H' : Led} (u : Rem a o H H') (hn : (H.map (·.1)).Nodup) : a ∉ H'.map (·.1) := by
  induction u with
  | head => rw [List.map_cons, List.nodup_cons] at hn; exact hn.1
  | tail u' ih =>
    rw [List.map_cons, List.nodup_cons] at hn
    rw [List.map_cons, List.mem_cons]
    rintro (e | e)
    · exact hn.1 (e ▸ List.mem_map_of_mem (f := (·.1)) u'.mem)
    · exact ih hn.2 e
def Lfz (a : Addr) (vs : List V) (L' L : List (Str × V)) : Prop := ∀ x v, L'.lookup x = some v → L.lookup x = some v ∨ (L.lookup x = some (.ref a) ∧ v = .lst vs)
theorem Lfz.nil {a : Addr} {vs : List V} {L : List (Str × V)} : Lfz a vs [] L := fun _ _ h => by cases h
theorem Lfz.cons {a : Addr} {vs : List V} {L L' : List (Str × V)} {x : Str} {v : V} (h : L'.lookup x = some v) (t : Lfz a vs L L') : Lfz a vs ((x, v) :: L) L' := by
  intro y w e
  by_cases q : y = x
  · subst q; rw [List.lookup_cons_self] at e; cases e; exact .inl h
  · rw [List.lookup_cons, beq_eq_false_iff_ne.mpr q] at e; exact t y w e
theorem Lfz.fz {a : Addr} {vs : List V} {L L' : List (Str × V)} {x : Str} (h : L'.lookup x = some (.ref a)) (t : Lfz a vs L L') : Lfz a vs ((x, .lst vs) :: L) L' := by
  intro y w e
  by_cases q : y = x
  · subst q; rw [List.lookup_cons_self] at e; cases e; exact .inr ⟨h, rfl⟩
  · rw [List.lookup_cons, beq_eq_false_iff_ne.mpr q] at e; exact t y w e
section
variable {C : Cx} {X : XP} {σ : St} {Q : V → St → Prop} {zs z : Z} {s : Shared}
theorem R.freezeL (hR : R C zs σ z s) {a : Addr} {vs : List V} {H' : Led} (u : Rem a (.list vs) σ.H H') : ∃ z', Z.le z z' ∧ R C zs ⟨σ.loc, H'⟩ z' s ∧ Rep z' (.lst vs) (.ref a) := by
  obtain ⟨⟨items, n, e, rl⟩, h0, h1⟩ := hR.rh.hH _ u.mem
  have hk : a ∈ σ.H.map (·.1) := List.mem_map_of_mem (f := (·.1)) u.mem
  have hR' : R C zs ⟨σ.loc, H'⟩ z s := hR.weaken (fun _ _ h => h) u.sub
  have ap : Apart C zs ⟨σ.loc, H'⟩ a := ⟨h1, fun q => hR.locFree.2.2 (q ▸ hk), u.out hR.rh.nodup, fun p hp q => (hR.cellsOk p hp).2.2.2.2 (q ▸ hk)⟩
  have le := Z.le_put hR'.rh e
  exact ⟨_, le, hR'.freeze e ap, .lst put_self (rl.mono le)⟩
theorem TE.freeze {e : Expr} (h : TE C e (fun v σ1 => ∃ a vs H', v = .ref a ∧ Rem a (.list vs) σ1.H H' ∧ Q (.lst vs) ⟨σ1.loc, H'⟩) X σ) : TE C e Q X σ := by
  intro z₀ zs z s hz hR
  refine wpAny_mono (h z₀ zs z s hz hR) ?_ fun _ _ x => x
  rintro v s1 ⟨z1, σ1, l1, R1, _, rv, a, vs, H', rfl, u, q⟩
  cases rv
  obtain ⟨z2, l2, R2, r2⟩ := R1.freezeL u
  exact ⟨z2, _, Z.le_trans l1 l2, R2, _, r2, q⟩
theorem R.freezeLoc (hR : R C zs σ z s) {a : Addr} {vs : List V} {H' : Led} {L : List (Str × V)} (u : Rem a (.list vs) σ.H H') (hL : Lfz a vs L σ.loc) : ∃ z', Z.le z z' ∧ R C zs ⟨L, H'⟩ z' s := by
  obtain ⟨z', l, R', r⟩ := hR.freezeL u
  refine ⟨z', l, R'.rh, ?_, ?_, R'.cellsOk, R'.locFree, R'.fr⟩
  · obtain ⟨m, x, y⟩ := R'.ns
    refine ⟨m, x, fun n v a b => ?_⟩
    rcases hL n v a with q | ⟨q, rfl⟩
    · exact y n v q b
    · obtain ⟨val, e, rr⟩ := y n _ q b
      cases rr; exact ⟨_, e, r⟩
  · intro n v a b
    rcases hL n v a with q | ⟨q, rfl⟩
    · exact R'.cells n v q b
    · obtain ⟨c, val, e1, e2, rr⟩ := R'.cells n _ q b
      cases rr; exact ⟨c, _, e1, e2, r⟩
theorem TSs.freeze {st : List Stmt} {QF : Fl → St → Prop} {a : Addr} {vs : List V} {H' : Led} {L : List (Str × V)} (u : Rem a (.list vs) σ.H H') (hL : Lfz a vs L σ.loc) (h : TSs C st QF X ⟨L, H'⟩) : TSs C st QF X σ := by
  intro z₀ zs z s hz hR
  obtain ⟨z', l, R'⟩ := hR.freezeLoc u hL
  refine wpAny_mono (h z' zs z' s (Z.le_refl _) R') ?_ fun _ _ x => PX.le l x
  rintro v s1 ⟨z1, σ1, l1, R1, q⟩
  exact ⟨z1, σ1, Z.le_trans l l1, R1, q⟩

/-! lists: a new live one -/
theorem CallV.fresh {zs z : Z} {s : Shared} (hR : R C zs σ z s) {h' : Heap} {t n : Nat} {items : List Value} {vs : List V} (k : ∀ b o, s.heap.get? b = some o → h'.get? b = some o) (e : h'.get? s.heap.objs.size = some (lstO items n)) (rl : RepL z vs items)
    (h : ∀ a, Q (.ref a) ⟨σ.loc, (a, .list vs) :: σ.H⟩) : ∃ z' σ', Z.le z z' ∧ R C zs σ' z' { s with heap := h', toks := t } ∧ PVal Q z' (.ref s.heap.objs.size) σ' := by
  have R' := hR.grow (t := t) k
  refine ⟨z, ⟨σ.loc, (s.heap.objs.size, .list vs) :: σ.H⟩, Z.le_refl _, R'.ledger (a := s.heap.objs.size) (o := .list vs) ⟨items, n, e, rl⟩ (hR.rh.fresh_z (Nat.le_refl _)) ?_, _, .ref _, h _⟩
  exact hR.apart_new (Nat.le_refl _)
theorem Bin.add_listM {v w : V} {vs ws : List V} (k : IsL σ v vs) (k2 : IsL σ w ws) (hn : vs.length + ws.length ≤ 16777216) (h : ∀ a, Q (.ref a) ⟨σ.loc, (a, .list (vs ++ ws)) :: σ.H⟩) : Bin C .Add v w Q X σ := by
  intro z₀ x y rx ry zs z s hz hR
  obtain ⟨a, items, n, rfl, p, q⟩ := k.obj rx hz hR
  obtain ⟨b, items2, n2, rfl, p2, q2⟩ := k2.obj ry hz hR
  refine PySem.P.add_list (n := n) (n2 := n2) p p2 ?_ (by rw [List.size_toArray, List.size_toArray, q.length, q2.length]; exact size_ok hn)
  rw [List.append_toArray]
  exact CallV.fresh hR (t := s.toks) (n := 0) (items := items ++ items2) (fun b o e => Heap.get?_push_of_some _ e) (Heap.get?_push_size _ rfl) (q.append q2) h
end
end PL

end
section
open PySem PySem.Calls PyProof.Rows
set_option Elab.async false
set_option linter.unusedVariables false
set_option linter.unusedSimpArgs false
set_option linter.unusedSectionVars false
set_option maxRecDepth 100000
namespace PL
section
variable {C : Cx} {X : XP} {σ : St} {Q : V → St → Prop} {zs z : Z} {s : Shared}
/-! `list(range(a, b))` -/
theorem items_ints {a : Int} : ∀ (n : Nat) (acc : Array Value), ItemsOf (fun i v => ∃ t, v = .int (a + i * 1) t) acc n → RepL z (upTo a n) acc.toList := by
  intro n acc h
  have h1 : acc.toList.length = n := h.1
  have h2 : ∀ (j : Nat) (v : Value), acc.toList[j]? = some v → ∃ t, v = Value.int (a + j) t := fun j v e => by
    obtain ⟨t, e'⟩ := h.2 j v (by rw [← Array.getElem?_toList]; exact e)
    exact ⟨t, by rw [e', Int.mul_one]⟩
  generalize acc.toList = l at h1 h2
  clear h
  induction n generalizing a l with
  | zero => cases l with
    | nil => exact .nil
    | cons x r => cases h1
  | succ n ih => cases l with
    | nil => cases h1
    | cons x r =>
      obtain ⟨t, rfl⟩ := h2 0 x rfl
      rw [upTo]
      refine .cons ?_ (ih r (by simpa using h1) fun j v e => ?_)
      · rw [show a + ((0 : Nat) : Int) = a by simp]; exact .int _ _
      · obtain ⟨t, rfl⟩ := h2 (j + 1) v (by simpa using e)
        exact ⟨t, by congr 1; omega⟩
theorem call_list_rng {a b : Int} (hh : C.A.handled = none) (hsm : Builtin.Range.small a b 1 = true) (hn : Builtin.Range.rangeSize a b 1 = ((b - a).toNat : Nat)) (hl : (b - a).toNat ≤ 1000000) (h : ∀ d, Q (.ref d) ⟨σ.loc, (d, .list (upTo a (b - a).toNat)) :: σ.H⟩) : CallV C (.type "list") [.rng a b 1] Q X σ := by
  refine CallV.toks fun z₀ zs z s xs hz hR r => ?_
  cases r with
  | cons r t =>
    cases t
    cases r with
    | rng e =>
    refine call_list_range hh (hR.rh.hz _ _ e) hsm hn (by omega) fun h' tk acc c' k e' hi => ?_
    exact CallV.fresh hR (t := tk) (items := acc.toList) k (by simpa using e') (items_ints _ acc hi) h
/-! `x in list` -/
theorem depth_min {A : Around} {n m : Nat} (h : A.units ≤ 9000) (hn : n ≤ 64) : A.units + 1 + min n m < cLine := by
  have : min n m ≤ n := Nat.min_le_left _ _
  show _ < 9900; omega
theorem in_units (C : Cx) : C.A.units ≤ 9000 := by have := C.hunits; omega
theorem Cmp.in_list {x v : V} {vs : List V} (k : IsL σ v vs) (hx : plainV x = true) (ha : plainVs vs = true) (da : deepVs vs ≤ 63) (h : Q (.bool ((toDs vs).any fun y => PyData.eqv y (toD x))) σ) : Cmp C .In x v Q X σ := by
  intro z₀ p q rp rq zs z s hz hR
  obtain ⟨as, ra⟩ := readsL k rq hz hR ha
  obtain ⟨bs, rb⟩ := reads_of hR.rh.hz (rp.mono hz) hx
  exact SeqAt.in_list_reads ra rb (canLays_of ha) (canLay_of hx) (depth_min (in_units C) (by rw [depths_of]; omega)) (PVal.same hR (.bool _) h)
/-! `l += m` -/
theorem fill_list_iadd : fillsInplaceSlot (.type "list") "add" (Operator.Add == .Add) = pure false := by
  unfold fillsInplaceSlot
  show (typeLookup (.type "list") (dunderI "add") >>= fun fi => pure (fi.isSome && !isSeqSlot fi)) = pure false
  rw [PySem.F.slot_list_iadd.lookup]
  kernel_rfl
theorem seq_list_iadd : seqSlot? (.type "list") (dunderI "add") = pure (some (.builtin "list.__iadd__")) := PySem.seqSlot_of PySem.F.slot_list_iadd.lookup (by decide +kernel)
theorem Inp.extend {a : Addr} {w : V} {vs ws : List V} {H' : Led} (hu : Upd a (.list vs) (.list (vs ++ ws)) σ.H H') (k2 : IsL σ w ws) (hn : vs.length + ws.length ≤ 16777216) (h : Q (.ref a) ⟨σ.loc, H'⟩) : Inp C .Add (.ref a) w Q X σ := by
  intro z₀ x y rx ry zs z s hz hR
  cases rx
  obtain ⟨⟨items, n, e, rl⟩, _⟩ := hR.rh.hH _ hu.mem
  obtain ⟨b, items2, n2, rfl, p2, q2⟩ := k2.obj ry hz hR
  have h1 := rl.length
  have h2 := q2.length
  have ha : s.TypeIs (.ref a) "list" := ⟨_, e, rfl⟩
  have hb : s.TypeIs (.ref b) "list" := ⟨_, p2, rfl⟩
  unfold inplaceOp
  refine wpAny_holding ?_
  refine wpAny_bind (wpAny_typeOf ha (wpAny_bind (wpAny_of_eq fill_list_iadd ?_)))
  rw [if_neg Bool.false_ne_true]
  refine wpAny_bind (wpAny_binaryOp1_none (nm := "add") ha hb noFill_list_add ?_)
  refine wpAny_bind (wpAny_of_eq seq_list_iadd ?_)
  refine wpAny_bind (wpAny_rule ?_)
  have hz : ¬(!items.toArray.isEmpty && Builtin.List.listTooLong (items.toArray.size + items2.toArray.size)) = true := by
    have : Builtin.List.listTooLong (items.toArray.size + items2.toArray.size) = false := by
      unfold Builtin.List.listTooLong
      simp only [List.size_toArray, decide_eq_false_iff_not, sizeLine_eq]
      omega
    rw [this, Bool.and_false]; exact Bool.false_ne_true
  refine call_meets PySem.F.slot_list_iadd ha PySem.F.entry_list_iadd (PySem.F.args_list_iadd_2 _ _) (AutoSeq1.list___iadd___list_list_0 a items.toArray n b items2.toArray n2 hz (by rw [List.size_toArray]; exact size_ok (by omega)) (by rw [List.size_toArray, List.size_toArray]; exact Nat.le_succ_of_le (size_ok (by omega)))) ⟨e, p2, ?_⟩
  obtain ⟨n', e2⟩ : ∃ n', Obj.mapSeq (fun x => x ++ items2.toArray) (lstO items n) = lstO (items ++ items2) n' := ⟨_, by simp only [Obj.mapSeq, lstO, List.append_toArray]; rfl⟩
  refine ⟨z, _, Z.le_refl _, hR.upd hu (t := s.toks) (Heap.SameBut.update ..) ⟨items ++ items2, n', ?_, rl.append q2⟩, _, .ref _, h⟩
  rw [Heap.get?_update_self _ e (by rw [e2]; rfl), e2]
end
end PL

end
section
open PySem PySem.Calls PyProof.Rows
set_option Elab.async false
set_option linter.unusedVariables false
set_option linter.unusedSimpArgs false
set_option linter.unusedSectionVars false
set_option maxRecDepth 100000
namespace PL
section
variable {C : Cx} {X : XP} {σ : St} {Q : V → St → Prop} {zs z : Z} {s : Shared}
/-! places from the end -/
theorem Get.listBack {v : V} {vs : List V} {k : Int} {j : Nat} {u : V} (hl : IsL σ v vs) (hn : vs.length ≤ 16777216) (hk : k < 0) (hj : k + vs.length = j) (hu : vs[j]? = some u) (h : Q u σ) : Get C v (.int k) Q X σ := by
  rintro z₀ x _ rx ⟨⟩ zs z s hz hR
  obtain ⟨a, items, rfl, p, q⟩ := hl.at rx hz hR
  obtain ⟨xv, hx, r⟩ := q.get hu
  have hlen := q.length
  refine wpAny_getItem_list_neg p hk (by simp; omega) (by omega) (x := xv) ?_ (PVal.same hR r h)
  rw [show (k + (items.toArray.size : Int)).toNat = j by simp; omega]
  simpa using hx
theorem Put.ledBack {Q : St → Prop} {a : Addr} {vs : List V} {k : Int} {j : Nat} {u : V} {H' : Led} (hu : Upd a (.list vs) (.list (vs.set j u)) σ.H H') (hn : vs.length ≤ 16777216) (hk : k < 0) (hj : k + vs.length = j) (h : Q ⟨σ.loc, H'⟩) : Put C (.ref a) (.int k) u Q X σ := by
  rintro z₀ x _ uv rx ⟨⟩ ru zs z s hz hR
  cases rx
  obtain ⟨⟨items, n, e, rl⟩, _⟩ := hR.rh.hH _ hu.mem
  have hlen := rl.length
  refine PySem.W.ki_setBack (items := items.toArray) (n := n) e hk (by simp; omega) (by omega) ?_
  rw [show (k + (items.toArray.size : Int)).toNat = j by simp; omega]
  have e2 : (Obj.mapSeq (·.setIfInBounds j uv) (lstO items n)) = lstO (items.set j uv) n := by
    simp [Obj.mapSeq, lstO]
  refine ⟨z, _, Z.le_refl _, hR.upd hu (t := s.toks) (Heap.SameBut.update ..) ⟨items.set j uv, n, ?_, rl.set j (ru.mono hz)⟩, h⟩
  rw [Heap.get?_update_self _ e (by rw [e2]; rfl), e2]
/-! `d.get(k, other)` -/
theorem DL.exact {K : Type} [DecidableEq K] {a : Addr} {kvs : List (K × V)} {knd : KeyKind C.g.prog C.g.w K} (d : DL C σ a knd kvs) (hR : R C zs σ z s) : ∃ o, s.heap.get? a = some o ∧ o.dict = none := by
  obtain ⟨ys, ⟨o, es, ep, ho, he, _⟩, rp, hs⟩ := d.get zs z s hR
  exact ⟨o, ho, he.2.1⟩
theorem DL.typeIs {K : Type} [DecidableEq K] {a : Addr} {kvs : List (K × V)} {knd : KeyKind C.g.prog C.g.w K} (d : DL C σ a knd kvs) (hR : R C zs σ z s) : s.TypeIs (.ref a) "dict" := by
  obtain ⟨ys, hd, rp, hs⟩ := d.get zs z s hR
  exact hd.typeIs
theorem Meth.dict {K : Type} [DecidableEq K] {a : Addr} {kvs : List (K × V)} {knd : KeyKind C.g.prog C.g.w K} (d : DL C σ a knd kvs) {name : Str} {id : String} (slot : Slot "dict" name id) (ty : typeOf (.builtin id) = pure (.type "method_descriptor")) : Meth C σ (.ref a) name id := by
  intro zs z s x pl Q' E hR r h
  cases r
  have ht := d.typeIs hR
  exact getMethod_builtin (T := "dict") ht PySem.F.plainAttrs_dict slot ty (fun b e => by cases e; exact d.exact hR) h
theorem call_dget {K : Type} [DecidableEq K] {a : Addr} {kvs : List (K × V)} {knd : KeyKind C.g.prog C.g.w K} {kv d : V} {k : K} (hd : DL C σ a knd kvs) (hk : KeyV C knd kv k) (h : Q ((vAt kvs k).getD d) σ) : CallV C (.builtin "dict.get") [.ref a, kv, d] Q X σ := by
  refine CallV.toks fun z₀ zs z s xs hz hR r => ?_
  cases r with
  | cons r t => cases t with
    | cons r2 t => cases t with
      | cons r3 t =>
        cases t; cases r
        obtain ⟨ys, hdo, rp, hs⟩ := hd.get zs z s hR
        refine PySem.call_meetsIn PySem.F.slot_dict_get hdo.typeIs PySem.F.entry_dict_get (PySem.F.args_dict_get_3 _ _ _) (meets_dict_get_default knd _ (hk _ _ r2) hs _) ⟨_, hdo.mapOf, ?_⟩
        rcases rp.at k with ⟨e1, e2⟩ | ⟨v, y, e1, e2, rv⟩
        · rw [e1] at h; rw [e2]
          exact PVal.toks hR r3 h
        · rw [e1] at h; rw [e2]
          exact PVal.toks hR rv h
theorem TE.dget {K : Type} [DecidableEq K] {e : Expr} {args : List Expr} {apos pos : Pos} (h : TE C e (fun ov σ1 => ∃ (a : Addr) (kvs : List (K × V)) (knd : KeyKind C.g.prog C.g.w K), ov = .ref a ∧ DL C σ1 a knd kvs ∧ TArgs C args (fun us σ2 => ∃ kv d k, us = [kv, d] ∧ DL C σ2 a knd kvs ∧ KeyV C knd kv k ∧ Q ((vAt kvs k).getD d) σ2) X σ1) X σ)
    (hp : (backTo pos (starEach args C.env)).any (·.1) = false := by rfl) (hb : attributeBase e "get" C.env (eval e C.env) = eval e C.env := by rfl)
    (hf : methodCallForm (args.length + 0) (backTo pos (starEach args C.env)) [] = true := by rfl) (hl : (apos.endLine == pos.line) = true := by rfl) : TE C (.Call (.Attribute e "get" apos) args [] pos) Q X σ := by
  refine TE.meth (id := "dict.get") (h.mono ?_) hp hb hf hl
  rintro ov σ1 ⟨a, kvs, knd, rfl, hm, h⟩
  refine ⟨Meth.dict hm PySem.F.slot_dict_get PySem.F.type_dict_get, fun p z₀ => (h p z₀).mono ?_⟩
  rintro z xs σ2 _ ⟨us, r, kv, d, k, rfl, hu, hn, q⟩
  exact ⟨_, r, call_dget hu hn q⟩
/-! `str(n)` -/
def decL (n : Nat) : List Nat := (Str.ofString (toString (n : Int))).cps.toList
theorem call_str_nat {n : Nat} (hn : n < 1000000) (h : Q (.txt false (decL n)) σ) : CallV C (.type "str") [.int (n : Int)] Q X σ := by
  refine CallV.toks fun z₀ zs z s xs hz hR r => ?_
  cases r with
  | cons r t =>
    cases t
    cases r with
    | int _ t =>
    refine PySem.P.str_of_int ?_ (PVal.toks hR (rep_str _ _) h)
    show n.log2 < 1920
    have : n.log2 ≤ n := Nat.log2_le_self n
    have h2 : n.log2 < 20 := by
      by_cases h0 : n = 0
      · subst h0; decide
      · exact (Nat.log2_lt h0).mpr (by omega)
    omega
end
end PL

end
section
open PySem PySem.Calls PyProof.Rows
set_option Elab.async false
set_option linter.unusedVariables false
set_option linter.unusedSimpArgs false
set_option linter.unusedSectionVars false
set_option maxRecDepth 100000
namespace PL
/-! a number's signs -/
theorem decL_eq (n : Nat) : decL n = (Nat.toDigits 10 n).map Char.toNat := by
  unfold decL
  rw [signs_ofString]
  show (Nat.repr n).toList.map Char.toNat = _
  rw [Nat.toList_repr]
theorem map_toNat_inj : ∀ {a b : List Char}, a.map Char.toNat = b.map Char.toNat → a = b
  | [], [], _ => rfl
  | [], _ :: _, h => by simp at h
  | _ :: _, [], h => by simp at h
  | x :: a, y :: b, h => by
    rw [List.map_cons, List.map_cons, List.cons.injEq] at h
    rw [map_toNat_inj h.2, Char.toNat_inj.mp h.1]
theorem decL_inj {n m : Nat} (h : decL n = decL m) : n = m := by
  rw [decL_eq, decL_eq] at h
  have := congrArg (Nat.ofDigitChars 10 · 0) (map_toNat_inj h)
  simpa [Nat.ofDigitChars_toDigits] using this
theorem decL_no (n : Nat) : 47 ∉ decL n := by
  rw [decL_eq]
  intro h
  obtain ⟨c, hc, e⟩ := List.mem_map.mp h
  have := Nat.isDigit_of_mem_toDigits (by decide) (by decide) hc
  simp only [Char.isDigit, Bool.and_eq_true, decide_eq_true_eq] at this
  have h1 : (48 : Nat) ≤ c.toNat := this.1
  omega
theorem decL_len {n : Nat} (h : n < 1000000) : (decL n).length ≤ 6 := by
  rw [decL_eq, List.length_map]
  exact PyProof.Rows.digits10_le (by decide) h
theorem cut_inj {c : Nat} : ∀ {a b p q : List Nat}, c ∉ a → c ∉ b → a ++ c :: p = b ++ c :: q → a = b ∧ p = q
  | [], [], _, _, _, _, h => by simpa using h
  | [], y :: b, _, _, _, hb, h => by
    rw [List.nil_append, List.cons_append, List.cons.injEq] at h
    exact absurd (by rw [h.1]; simp) hb
  | x :: a, [], _, _, ha, _, h => by
    rw [List.nil_append, List.cons_append, List.cons.injEq] at h
    exact absurd (by rw [← h.1]; simp) ha
  | x :: a, y :: b, p, q, ha, hb, h => by
    rw [List.cons_append, List.cons_append, List.cons.injEq] at h
    rw [List.mem_cons, not_or] at ha hb
    obtain ⟨e1, e2⟩ := cut_inj ha.2 hb.2 h.2
    exact ⟨by rw [h.1, e1], e2⟩
def keyL (n : Nat) (p : List Nat) : List Nat := decL n ++ [47] ++ p
theorem keyL_inj {n m : Nat} {p q : List Nat} (h : keyL n p = keyL m q) : n = m ∧ p = q := by
  unfold keyL at h
  rw [List.append_assoc, List.append_assoc] at h
  obtain ⟨a, b⟩ := cut_inj (decL_no n) (decL_no m) h
  exact ⟨decL_inj a, b⟩
theorem strOf_inj {l m : List Nat} (h : strOf l = strOf m) : l = m := by
  have := congrArg (fun s => s.cps.toList) h
  simpa [strOf] using this
/-! a text read sign by sign -/
def bump (ps : List (List Nat)) (x : Nat) : List (List Nat) := ps.set (ps.length - 1) ((ps[ps.length - 1]?).getD [] ++ [x])
theorem bump_cons (p : List Nat) {ps : List (List Nat)} (h : ps ≠ []) (x : Nat) : bump (p :: ps) x = p :: bump ps x := by
  unfold bump
  obtain ⟨n, e⟩ : ∃ n, ps.length = n + 1 := ⟨ps.length - 1, by have := List.length_pos_iff.mpr h; omega⟩
  simp [e]
theorem splitS_snoc (c : Nat) (x : Nat) : ∀ l : List Nat, splitS c (l ++ [x]) = if x = c then splitS c l ++ [[]] else bump (splitS c l) x
  | [] => by
    simp only [List.nil_append, splitS, bump]
    split <;> simp
  | y :: l => by
    have ih := splitS_snoc c x l
    have hne := splitS_ne c l
    rw [List.cons_append]
    unfold splitS
    by_cases hy : y = c
    · rw [if_pos hy, if_pos hy, ih]
      by_cases hx : x = c
      · rw [if_pos hx, if_pos hx]; rfl
      · rw [if_neg hx, if_neg hx, bump_cons _ hne]
    · rw [if_neg hy, if_neg hy, ih]
      obtain ⟨p, ps, e⟩ : ∃ p ps, splitS c l = p :: ps := by
        cases h : splitS c l with
        | nil => exact absurd h hne
        | cons p ps => exact ⟨p, ps, rfl⟩
      rw [e]
      by_cases hx : x = c
      · rw [if_pos hx, if_pos hx]; rfl
      · rw [if_neg hx, if_neg hx]
        cases ps with
        | nil => simp [bump]
        | cons q qs =>
          show (match bump (p :: q :: qs) x with | [] => [[y]] | p :: ps => (y :: p) :: ps) = bump ((y :: p) :: q :: qs) x
          have h : q :: qs ≠ [] := List.cons_ne_nil _ _
          rw [bump_cons _ h, bump_cons _ h]
end PL

end
section
open PySem PySem.Calls PyProof.Rows
set_option Elab.async false
set_option linter.unusedVariables false
set_option linter.unusedSimpArgs false
set_option linter.unusedSectionVars false
set_option maxRecDepth 100000
namespace PL
/-! normal forms -/
theorem splitS_free (c : Nat) : ∀ {l p : List Nat}, p ∈ splitS c l → c ∉ p
  | [], p, h => by simp [splitS] at h; subst h; simp
  | x :: r, p, h => by
    unfold splitS at h
    split at h
    · rcases List.mem_cons.mp h with e | h
      · subst e; simp
      · exact splitS_free c h
    · rename_i hx
      have ih := fun q (hq : q ∈ splitS c r) => splitS_free c (l := r) (p := q) hq
      cases e : splitS c r with
      | nil => exact absurd e (splitS_ne c r)
      | cons q qs =>
        rw [e] at h ih
        rcases List.mem_cons.mp h with e' | h
        · subst e'
          rw [List.mem_cons, not_or]
          exact ⟨Ne.symm hx, ih q List.mem_cons_self⟩
        · exact ih p (List.mem_cons_of_mem _ h)
def nameN (p : List Nat) : Prop := p ≠ [] ∧ p ≠ [46] ∧ p ≠ [46, 46] ∧ 47 ∉ p
abbrev dd : List Nat := [46, 46]
structure Norm (r : Nat) (cs : List (List Nat)) : Prop where
  le : r ≤ 2
  sp : ∃ k ns, cs = List.replicate k dd ++ ns ∧ (k = 0 ∨ r = 0) ∧ ∀ n ∈ ns, nameN n
theorem norm_nil {r : Nat} (h : r ≤ 2) : Norm r [] := ⟨h, 0, [], rfl, .inl rfl, by simp⟩
theorem getLast_of {α : Type} {l : List α} (h : l ≠ []) : l[l.length - 1]? = some (l.getLast h) := by
  rw [List.getLast_eq_getElem, List.getElem?_eq_getElem]
theorem norm_step {r : Nat} {acc : List (List Nat)} {c : List Nat} (h : Norm r acc) (hc : 47 ∉ c) : Norm r (stepN r acc c) := by
  obtain ⟨hr, k, ns, rfl, hk, hns⟩ := h
  unfold stepN
  split
  · exact ⟨hr, k, ns, rfl, hk, hns⟩
  rename_i h1
  rw [not_or] at h1
  by_cases hd : c = dd
  · subst hd
    by_cases hn : ns = []
    · subst hn
      rw [List.append_nil]
      by_cases hk0 : k = 0
      · subst hk0
        by_cases hr0 : r = 0
        · rw [if_pos (.inr (.inl ⟨hr0, rfl⟩))]
          exact ⟨hr, 1, [], by simp, .inr hr0, by simp⟩
        · rw [if_neg (by simp [hr0])]
          exact ⟨hr, 0, [], rfl, .inl rfl, by simp⟩
      · have hr0 := hk.resolve_left hk0
        rw [if_pos]
        · exact ⟨hr, k + 1, [], by rw [List.append_nil, List.replicate_succ'], .inr hr0, by simp⟩
        · refine .inr (.inr ⟨by simp [hk0], ?_⟩)
          rw [List.length_replicate, List.getElem?_replicate, if_pos (by omega)]
    · have hne : List.replicate k dd ++ ns ≠ [] := by simp [hn]
      rw [if_neg]
      · rw [List.dropLast_append_of_ne_nil hn]
        exact ⟨hr, k, ns.dropLast, rfl, hk, fun n hm => hns n (List.dropLast_subset _ hm)⟩
      · rintro (q | ⟨_, q⟩ | ⟨_, q⟩)
        · exact q rfl
        · exact hne q
        · rw [getLast_of hne, List.getLast_append_of_ne_nil _ hn] at q
          exact (hns _ (List.getLast_mem hn)).2.2.1 (Option.some.inj q)
  · rw [if_pos (.inl hd)]
    refine ⟨hr, k, ns ++ [c], by rw [List.append_assoc], hk, fun n hm => ?_⟩
    rcases List.mem_append.mp hm with hm | hm
    · exact hns n hm
    · rw [List.mem_singleton.mp hm]; exact ⟨h1.1, h1.2, hd, hc⟩
theorem norm_fold {r : Nat} : ∀ {ps acc : List (List Nat)}, Norm r acc → (∀ p ∈ ps, 47 ∉ p) → Norm r (ps.foldl (stepN r) acc)
  | [], _, h, _ => h
  | p :: ps, _, h, hp => norm_fold (ps := ps) (norm_step h (hp p List.mem_cons_self)) fun q hq => hp q (List.mem_cons_of_mem _ hq)
theorem norm_normC {r : Nat} (hr : r ≤ 2) {ps : List (List Nat)} (hp : ∀ p ∈ ps, 47 ∉ p) : Norm r (normC r ps) := norm_fold (norm_nil hr) hp
theorem rootN_le2 (l : List Nat) : rootN l ≤ 2 := by
  rw [rootN_lead]
  (repeat' split) <;> omega
theorem norm_text (l : List Nat) : Norm (rootN l) (normC (rootN l) (splitS 47 l)) := norm_normC (rootN_le2 l) fun p hp => splitS_free 47 hp
theorem step_name {r : Nat} {acc : List (List Nat)} {n : List Nat} (h : nameN n) : stepN r acc n = acc ++ [n] := by
  unfold stepN
  rw [if_neg (not_or.mpr ⟨h.1, h.2.1⟩), if_pos (.inl h.2.2.1)]
theorem step_dd0 {k : Nat} : stepN 0 (List.replicate k dd) dd = List.replicate (k + 1) dd := by
  unfold stepN
  rw [if_neg (by decide), if_pos, List.replicate_succ']
  cases k with
  | zero => exact .inr (.inl ⟨rfl, rfl⟩)
  | succ k => exact .inr (.inr ⟨by simp, by rw [List.length_replicate, List.getElem?_replicate, if_pos (by omega)]⟩)
theorem fold_names {r : Nat} : ∀ (ns acc : List (List Nat)), (∀ n ∈ ns, nameN n) → ns.foldl (stepN r) acc = acc ++ ns
  | [], acc, _ => by simp
  | n :: ns, acc, h => by
    rw [List.foldl_cons, step_name (h n List.mem_cons_self), fold_names ns _ fun m hm => h m (List.mem_cons_of_mem _ hm)]; simp
theorem fold_dds : ∀ (k j : Nat), (List.replicate k dd).foldl (stepN 0) (List.replicate j dd) = List.replicate (j + k) dd
  | 0, j => rfl
  | k + 1, j => by
    rw [List.replicate_succ, List.foldl_cons, step_dd0, fold_dds k (j + 1)]
    congr 1; omega
theorem norm_fix {r : Nat} {cs : List (List Nat)} (h : Norm r cs) : normC r cs = cs := by
  obtain ⟨hr, k, ns, rfl, hk, hns⟩ := h
  unfold normC
  rw [List.foldl_append]
  rcases hk with rfl | rfl
  · exact fold_names ns [] hns
  · have := fold_dds k 0
    rw [List.replicate_zero, Nat.zero_add] at this
    rw [this, fold_names ns _ hns]
theorem norm_ok {r : Nat} {cs : List (List Nat)} (h : Norm r cs) : ∀ c ∈ cs, c ≠ [] ∧ c ≠ [46] ∧ 47 ∉ c := by
  obtain ⟨hr, k, ns, rfl, hk, hns⟩ := h
  intro c hc
  rcases List.mem_append.mp hc with hc | hc
  · rw [(List.mem_replicate.mp hc).2]; decide
  · obtain ⟨a, b, _, d⟩ := hns c hc; exact ⟨a, b, d⟩
theorem joinS_head {cs : List (List Nat)} (h : ∀ c ∈ cs, c ≠ [] ∧ 47 ∉ c) : (joinS [47] cs).take 1 ≠ [47] := by
  cases cs with
  | nil => simp [joinS]
  | cons c r =>
    obtain ⟨h1, h2⟩ := h c List.mem_cons_self
    obtain ⟨x, t, rfl⟩ := List.exists_cons_of_ne_nil h1
    have hx : x ≠ 47 := fun e => h2 (by rw [e]; simp)
    cases r with
    | nil => simpa [joinS] using hx
    | cons d r => simpa [joinS] using hx
theorem rootN_rep {r : Nat} (hr : r ≤ 2) {l : List Nat} (h : l.take 1 ≠ [47]) : rootN (List.replicate r 47 ++ l) = r := by
  match r, hr with
  | 0, _ => unfold rootN; rw [List.replicate_zero, List.nil_append, if_neg h]
  | 1, _ =>
    have e : (List.replicate 1 47 ++ l) = 47 :: l := rfl
    simp only [rootN, e, List.take_succ_cons, List.take_zero, List.drop_succ_cons, List.drop_zero]
    simp [h]
  | 2, _ =>
    have e : (List.replicate 2 47 ++ l) = 47 :: 47 :: l := rfl
    simp only [rootN, e, List.take_succ_cons, List.take_zero, List.drop_succ_cons, List.drop_zero]
    simp [h]
theorem out_back {r : Nat} {cs : List (List Nat)} (h : Norm r cs) : rootN (outS r cs) = r ∧ normC r (splitS 47 (outS r cs)) = cs := by
  have ok := norm_ok h
  unfold outS
  split
  · rename_i e
    rw [List.append_eq_nil_iff] at e
    have hr0 : r = 0 := by have := congrArg List.length e.1; simpa using this
    subst hr0
    refine ⟨rfl, ?_⟩
    cases cs with
    | nil => rfl
    | cons c r =>
      exfalso
      have h1 := (ok c List.mem_cons_self).1
      cases r with
      | nil => exact h1 e.2
      | cons d r => simp [joinS] at e
  · refine ⟨rootN_rep h.le (joinS_head fun c hc => ⟨(ok c hc).1, (ok c hc).2.2⟩), ?_⟩
    rw [splitS_rep, normC_rep, normC_split_join _ _ fun c hc => (ok c hc).2.2, norm_fix h]
theorem norm_out {r : Nat} {cs : List (List Nat)} (h : Norm r cs) : normS (outS r cs) = outS r cs := by
  obtain ⟨a, b⟩ := out_back h
  rw [normS_eq, a, b]
theorem out_inj {r r' : Nat} {cs cs' : List (List Nat)} (h : Norm r cs) (h' : Norm r' cs') (e : outS r cs = outS r' cs') : r = r' ∧ cs = cs' := by
  obtain ⟨a, b⟩ := out_back h
  obtain ⟨a', b'⟩ := out_back h'
  rw [e] at a b
  have hr : r = r' := a.symm.trans a'
  subst hr
  exact ⟨rfl, b.symm.trans b'⟩
theorem norm_idem (l : List Nat) : normS (normS l) = normS l := by
  rw [normS_eq l]; exact norm_out (norm_text l)
end PL

end
section
open PySem PySem.Calls PyProof.Rows
set_option Elab.async false
set_option linter.unusedVariables false
set_option linter.unusedSimpArgs false
set_option linter.unusedSectionVars false
set_option maxRecDepth 100000
namespace PL
section
variable {K : Type} [DecidableEq K]
theorem find_map_put {k k' : K} {v : V} : ∀ kvs : List (K × V), (kvs.map fun e => if e.1 = k then (e.1, v) else e).find? (fun e => e.1 = k') = (kvs.find? (fun e => e.1 = k')).map fun e => if e.1 = k then (e.1, v) else e
  | [] => rfl
  | e :: r => by
    have ih := find_map_put (k := k) (k' := k') (v := v) r
    have e1 : ((if e.1 = k then (e.1, v) else e) : K × V).1 = e.1 := by split <;> rfl
    rw [List.map_cons, List.find?_cons, List.find?_cons, e1]
    by_cases h : e.1 = k'
    · simp [h]
    · simp only [h, decide_false]; exact ih
theorem vAt_put (kvs : List (K × V)) (k k' : K) (v : V) : vAt (vPut kvs k v) k' = if k' = k then some v else vAt kvs k' := by
  unfold vAt vPut
  split
  · rename_i h
    rw [find_map_put]
    by_cases hk : k' = k
    · subst hk
      rw [if_pos rfl]
      obtain ⟨e, he, hek⟩ := List.any_eq_true.mp h
      cases hf : kvs.find? (fun e => decide (e.1 = k')) with
      | none => exact absurd hek (by simpa using List.find?_eq_none.mp hf e he)
      | some e' =>
        have := List.find?_some hf
        simp at this
        simp [this]
    · rw [if_neg hk]
      cases hf : kvs.find? (fun e => decide (e.1 = k')) with
      | none => rfl
      | some e' =>
        have := List.find?_some hf
        simp at this
        simp [this, hk]
  · rename_i h
    rw [List.find?_append]
    by_cases hk : k' = k
    · subst hk
      rw [if_pos rfl]
      cases hf : kvs.find? (fun e => decide (e.1 = k')) with
      | none => simp
      | some e' => exact absurd (List.any_eq_true.mpr ⟨e', List.mem_of_find?_eq_some hf, List.find?_some hf⟩) h
    · rw [if_neg hk]
      have : ([(k, v)] : List (K × V)).find? (fun e => decide (e.1 = k')) = none := by simp [Ne.symm hk]
      rw [this, Option.or_none]
theorem vPut_length (kvs : List (K × V)) (k : K) (v : V) : (vPut kvs k v).length ≤ kvs.length + 1 := by
  unfold vPut
  split
  · rw [List.length_map]; omega
  · rw [List.length_append]; exact Nat.le_refl _
end
theorem Upd.app {a : Addr} {o o' : AO} {H H' : Led} (u : Upd a o o' H H') : ∀ K : Led, Upd a o o' (K ++ H) (K ++ H')
  | [] => u
  | p :: K => .tail (Upd.app u K)
theorem step_up {r : Nat} {cs : List (List Nat)} {p : List Nat} (h : nameN p) : stepN r (cs ++ [p]) dd = cs := by
  unfold stepN
  rw [if_neg (by decide), if_neg, List.dropLast_concat]
  rintro (q | ⟨_, q⟩ | ⟨_, q⟩)
  · exact q rfl
  · simp at q
  · rw [List.length_append, List.length_singleton, Nat.add_sub_cancel, List.getElem?_concat_length] at q
    exact h.2.2.1 (Option.some.inj q)
theorem get_snoc {α : Type} {l : List α} {x y : α} {i : Nat} (h : (l ++ [x])[i]? = some y) : l[i]? = some y ∨ (i = l.length ∧ y = x) := by
  rcases Nat.lt_or_ge i l.length with q | q
  · rw [List.getElem?_append_left q] at h; exact .inl h
  · rw [List.getElem?_append_right q] at h
    obtain ⟨h1, h2⟩ := List.getElem?_eq_some_iff.mp h
    simp at h1
    exact .inr ⟨by omega, by rw [← h2]; simp⟩
theorem get_pre {α : Type} {l : List α} {x y : α} {i : Nat} (h : l[i]? = some y) : (l ++ [x])[i]? = some y := by
  rw [List.getElem?_append_left (List.getElem?_eq_some_iff.mp h).1]; exact h
end PL

end
section
open PySem PySem.Calls PyProof.Rows
set_option Elab.async false
set_option linter.unusedVariables false
set_option linter.unusedSimpArgs false
set_option linter.unusedSectionVars false
set_option maxRecDepth 100000
namespace PL
/-! displays of written numbers -/
def constI : Expr → Option Int
  | .Constant (.int i) _ _ => some i
  | _ => none
def constsI : List Expr → Option (List Int)
  | [] => some []
  | e :: r => match constI e, constsI r with
    | some i, some l => some (i :: l)
    | _, _ => none
def rowI : Expr → Option (List Int)
  | .List es _ => constsI es
  | _ => none
def rowsI : List Expr → Option (List (List Int))
  | [] => some []
  | e :: r => match rowI e, rowsI r with
    | some i, some l => some (i :: l)
    | _, _ => none
section
variable {C : Cx} {X : XP} {σ : St}
theorem TArgs.ints : ∀ {es : List Expr} {is : List Int} {Q : List V → St → Prop}, constsI es = some is → Q (is.map .int) σ → TArgs C es Q X σ
  | [], is, Q, h, q => by
    cases h; exact TArgs.nil q
  | e :: r, is, Q, h, q => by
    unfold constsI at h
    split at h
    · rename_i i l h1 h2
      cases h
      unfold constI at h1
      split at h1
      · cases h1
        refine TArgs.cons (TE.const_int ?_)
        exact TArgs.ints h2 q
      · cases h1
    · cases h
theorem TE.rowF {e : Expr} {is : List Int} {Q : V → St → Prop} (h : rowI e = some is) (hn : is.length ≤ 16777216) (q : Q (.lst (is.map .int)) σ) : TE C e Q X σ := by
  unfold rowI at h
  split at h
  · exact TE.listF (TArgs.ints h ⟨by rw [List.length_map]; exact hn, q⟩)
  · cases h
theorem TArgs.rows : ∀ {es : List Expr} {rs : List (List Int)} {Q : List V → St → Prop}, rowsI es = some rs → (∀ r ∈ rs, r.length ≤ 16777216) → Q (rs.map fun r => .lst (r.map .int)) σ → TArgs C es Q X σ
  | [], rs, Q, h, hn, q => by
    cases h; exact TArgs.nil q
  | e :: r, rs, Q, h, hn, q => by
    unfold rowsI at h
    split at h
    · rename_i i l h1 h2
      cases h
      have he : starEach (e :: r) C.env = (false, eval e C.env) :: starEach r C.env := by
        unfold rowI at h1
        split at h1
        · rfl
        · cases h1
      refine TArgs.cons (TE.rowF h1 (hn i List.mem_cons_self) ?_) he
      exact TArgs.rows h2 (fun r hr => hn r (List.mem_cons_of_mem _ hr)) q
    · cases h
/-- `x = [[..], ..]`: a live list of rows of numbers -/
theorem TS.assignRows {x : Str} {p p' p2 : Pos} {es : List Expr} {rs : List (List Int)} {Q : Fl → St → Prop} (k : Stores C x) (h : rowsI es = some rs) (hn : ∀ r ∈ rs, r.length ≤ 16777216) (hl : rs.length ≤ 16777216)
    (q : ∀ a, Q .next ⟨setL σ.loc x (.ref a), (a, .list (rs.map fun r => .lst (r.map .int))) :: σ.H⟩) : TS C (.Assign [.Name x p'] (.List es p) p2) Q X σ :=
  TS.assign k (TE.listM (TArgs.rows h hn ⟨by rw [List.length_map]; exact hl, q⟩))
theorem TS.augRows {x : Str} {p p' p2 : Pos} {es : List Expr} {rs : List (List Int)} {Q : Fl → St → Prop} {a : Addr} {vs : List V} {H' : Led} (k : Stores C x) (hv : σ.loc.lookup x = some (.ref a)) (h : rowsI es = some rs) (hn : ∀ r ∈ rs, r.length ≤ 16777216) (hl : vs.length + rs.length ≤ 16777216)
    (hu : Upd a (.list vs) (.list (vs ++ rs.map fun r => .lst (r.map .int))) σ.H H') (q : Q .next ⟨setL σ.loc x (.ref a), H'⟩) : TS C (.AugAssign (.Name x p') .Add (.List es p) p2) Q X σ :=
  TS.aug k hv (TE.listF (TArgs.rows h hn ⟨by rw [List.length_map]; omega, Inp.extend hu (.fz _) (by rw [List.length_map]; omega) q⟩))
theorem TSs.consE {sts : List Stmt} {st : Stmt} {r : List Stmt} {Q : Fl → St → Prop} (e : sts = st :: r) (h : TS C st (fun f σ1 => match f with | .next => TSs C r Q X σ1 | f => Q f σ1) X σ) : TSs C sts Q X σ := by
  subst e; exact TSs.cons h
end
end PL

end
open PySem PySem.Calls PyProof.Rows
set_option maxRecDepth 100000
set_option maxHeartbeats 4000000
local macro_rules | `(tactic| walk_at "pl lk") => `(tactic| first | with_reducible exact PL.lk_hit | with_reducible exact PL.lk_hd | ((with_reducible apply PL.lk_miss); (decide +kernel); walk_at "pl lk") | ((with_reducible apply PL.lk_tl); (decide +kernel); walk_at "pl lk"))
local macro_rules | `(tactic| walk_at "pl lo") => `(tactic| first | with_reducible exact PL.Lo.nil | (refine PL.Lo.cons ?_ ?_; walk_at "pl lk"; walk_at "pl lo"))
local macro_rules | `(tactic| walk_at "pl lf") => `(tactic| first | exact PL.lf_nil | (refine PL.lf_cons ?_ (by decide +kernel) ?_; walk_at "pl lk"; walk_at "pl lf"))
local macro_rules | `(tactic| walk_at "pl comp") => `(tactic| (constructor <;> decide +kernel))
local macro_rules | `(tactic| walk_at "pl in") => `(tactic| with_reducible (first | exact PL.BI.len | exact PL.BI.ord | exact PL.BI.chr | exact PL.BI.abs | exact PL.BI.min | exact PL.BI.max | exact PL.BI.sum | exact PL.BI.isinstance | exact PL.BI.issubclass | exact PL.BI.divmod | exact PL.BI.range | exact PL.BI.list | exact PL.BI.tuple | exact PL.BI.bytes | exact PL.BI.str | exact PL.BI.bool | exact PL.BI.type | exact PL.BI.bytearray))
local macro_rules | `(tactic| walk_at "pl st") => `(tactic| first | exact PL.In.stL (by assumption) (by kernel_rfl!) | exact PL.In.stC (by assumption) (by assumption) (by kernel_rfl!))
local macro_rules | `(tactic| walk_at "pl kept") => `(tactic| intro _; first | exact PL.Kept.bi _ | exact PL.Kept.ty _)
local macro_rules | `(tactic| walk_at "pl nm") => `(tactic| first
  | refine PL.TE.nameL (by assumption) (by kernel_rfl!) (by walk_at "pl lk") ?_
  | refine PL.TE.nameC (by assumption) (by kernel_rfl!) (by walk_at "pl lk") ?_
  | refine PL.TE.nameB (bs := PL.BI) (by assumption) (by kernel_rfl!) (by assumption) (by decide +kernel) (by walk_at "pl in") ?_)
local macro_rules | `(tactic| walk_at "pl TE") => `(tactic| first
  | ((with_reducible show PL.TE _ (Expr.Name _ _) _ _ _); walk_at "pl nm")
  | ((with_reducible show PL.TE _ (Expr.Compare _ _ _ _) _ _ _); refine PL.TE.cmp ?_)
  | ((with_reducible show PL.TE _ (Expr.Call (Expr.Name _ _) _ _ _) _ _ _); refine PL.TE.callB (bs := PL.BI) (by assumption) (by kernel_rfl!) (by assumption) (by decide +kernel) (by walk_at "pl in") (by walk_at "pl kept") ?_)
  | with_reducible (first
    | refine PL.TE.const_int ?_
    | refine PL.TE.binop ?_
    | refine PL.TE.subsl ?_
    | refine PL.TE.sub ?_
    | refine PL.TE.str (by (first | exact PL.Str1 | exact PL.Str2 | exact PL.Str3 | exact PL.Str4 | exact PL.Str5 | exact PL.Str6 | exact PL.Str7 | exact PL.Str8 | exact PL.Str9 | exact PL.Str10)) ?_
    | refine PL.TE.byt (by (first | exact PL.Byt1 | exact PL.Byt2 | exact PL.Byt3 | exact PL.Byt4)) ?_
    | refine PL.TE.const_bool ?_
    | refine PL.TE.const_none ?_
    | refine PL.TE.unop ?_
    | refine PL.TE.ifexp ?_
    | refine PL.TE.tuple ?_
    | refine PL.TE.listF ?_))
local macro_rules | `(tactic| walk_at "pl TS") => `(tactic| first
  | ((with_reducible show PL.TS _ (Stmt.Assign _ _ _) _ _ _); refine PL.TS.assign (by walk_at "pl st") ?_)
  | ((with_reducible show PL.TS _ (Stmt.AugAssign (Expr.Name _ _) _ _ _) _ _ _); refine PL.TS.aug (by walk_at "pl st") (by walk_at "pl lk") ?_)
  | ((with_reducible show PL.TS _ (Stmt.AugAssign _ _ _ _) _ _ _); refine PL.TS.augSub ?_)
  | ((with_reducible show PL.TS _ (Stmt.Expr _ _) _ _ _); refine PL.TS.expr ?_)
  | with_reducible (first
    | refine PL.TS.ret ?_
    | refine PL.TS.if_ ?_
    | refine PL.TS.cont ?_
    | refine PL.TS.brk ?_
    | refine PL.TS.pass ?_))
local macro_rules | `(tactic| walk_at "pl op") => `(tactic| with_reducible (first
  | refine PL.Bin.add_int ?_
  | refine PL.Bin.sub_int ?_
  | refine PL.Inp.add_int ?_
  | refine PL.Inp.sub_int ?_
  | refine PL.Un.neg_int ?_
  | refine PL.Cmp.lt_int ?_
  | refine PL.Cmp.gt_int ?_
  | refine PL.Cmp.le_int ?_
  | refine PL.Cmp.ge_int ?_
  | refine PL.Cmp.eq_int ?_
  | refine PL.Cmp.ne_int ?_
  | refine PL.Cmp.eq_bool ?_
  | refine PL.Cmp.ne_bool ?_
  | refine PL.Cmp.eq_txt ?_
  | refine PL.Cmp.ne_txt ?_
  | refine PL.Tru.bool ?_
  | refine PL.Tru.int ?_
  | refine PL.Tru.none ?_))
local macro_rules | `(tactic| walk_at "pl e") => `(tactic| first
  | ((with_reducible show PL.TE _ _ _ _ _); walk_at "pl TE")
  | ((with_reducible show PL.TS _ _ _ _ _); walk_at "pl TS")
  | ((with_reducible show PL.TArgs _ (_ :: _) _ _ _); refine PL.TArgs.cons ?_)
  | ((with_reducible show PL.TB _ (Expr.Compare _ _ _ _) _ _ _); refine PL.TB.cmp ?_)
  | with_reducible (first
    | refine PL.TArgs.nil ?_
    | refine PL.TOpt.none ?_
    | refine PL.TOpt.some ?_
    | refine PL.TB.not ?_
    | refine PL.TB.boolop ?_
    | refine PL.TBall.and_nil ?_
    | refine PL.TBall.or_nil ?_
    | refine PL.TBall.and_cons ?_
    | refine PL.TBall.or_cons ?_
    | refine PL.TSs.nil ?_
    | refine PL.TSs.cons ?_)
  | ((with_reducible show PL.TB _ _ _ _ _); refine PL.TB.val ?_)
  | walk_at "pl op"
  | refine ⟨_, rfl, ?_⟩)

section
open PySem PySem.Calls PyProof.Rows
set_option Elab.async false
set_option linter.unusedVariables false
set_option linter.unusedSimpArgs false
set_option maxRecDepth 100000
set_option maxHeartbeats 4000000

namespace PL
abbrev P4 := PySem.Challenge.pw_km0084_04
theorem pars9 : parsAt P4 9 = [("path" : Str)] := by kernel_rfl
theorem pars11 : parsAt P4 11 = [("p" : Str)] := by kernel_rfl
theorem pars12 : parsAt P4 12 = [("path" : Str)] := by kernel_rfl
theorem fspath_ok {g : Gd} {a : Addr} (hf : Fn g P4 9 a) (hb : Free g BI) {o : Bool} {l : List Nat} {Q : V → Led → Prop} {X : XL} {H : Led} (h : Q (.txt o l) H) : CallT g (0 + 1) (.ref a) [.txt o l] Q X H := by
  obtain ⟨hm, fd, F⟩ := hf
  refine CallT.def_ F (by rw [pars9]; rfl) fun C hC hro => ?_
  rw [pars9]
  refine TSs.le start1 ?_
  refine TSs.cons ?_
  repeat (walk_at "pl e")
  refine call_type ?_
  repeat (walk_at "pl e")
  refine ⟨by simp, ?_⟩
  repeat (walk_at "pl e")
  refine call_issubclass_pair ?_
  repeat (walk_at "pl e")
  refine ite_t rfl ?_
  repeat (walk_at "pl e")
  exact h
theorem splitroot_ok {g : Gd} {a b : Addr} (hf : Fn g P4 11 a) (hf9 : Fn g P4 9 b) (hb : Free g BI) {o : Bool} {l : List Nat} (hn : l.length ≤ 1000000) {Q : V → Led → Prop} {X : XL} {H : Led}
    (h : Q (.tup [.txt o [], .txt o (List.replicate (rootN l) 47), .txt o (l.drop (rootN l))]) H) : CallT g (1 + 1) (.ref a) [.txt o l] Q X H := by
  obtain ⟨hm, fd, F⟩ := hf
  refine CallT.def_ F (by rw [pars11]; rfl) fun C hC hro => ?_
  rw [pars11]
  refine TSs.le start1 ?_
  refine TSs.cons ?_
  repeat (walk_at "pl e")
  refine TE.callG hC hf9 (by kernel_rfl) (by kernel_rfl) ?_
  repeat (walk_at "pl e")
  refine CallV.fnI hC (fspath_ok hf9 hb ?_) (by decide)
  repeat (walk_at "pl e")
  refine call_isinstance_txt (p := true) ?_
  walk_at "pl e"
  have tk := rootN_take l
  unfold rootN at h tk
  cases o
  · refine ite_f (by decide) ?_
    repeat (walk_at "pl e")
    refine Slc.txt (by omega) ?_
    rw [sl_toL l 1 1 rfl]
    repeat (walk_at "pl e")
    refine ite_b (fun c1 => ?_) (fun c1 => ?_)
    · repeat (walk_at "pl e")
      refine ⟨by simp, ?_⟩
      rw [if_neg (by simpa using c1)] at h
      exact h
    · have c1 : l.take 1 = [47] := by simpa using c1
      rw [if_pos c1] at h tk
      repeat (walk_at "pl e")
      refine Slc.txt (by omega) ?_
      rw [sl_12 l 1 2 1 rfl rfl]
      repeat (walk_at "pl e")
      refine ite_b (fun c2 => ?_) (fun c2 => ?_)
      · repeat (walk_at "pl e")
        refine ite_t rfl ?_
        repeat (walk_at "pl e")
        refine Slc.txt (by omega) ?_
        rw [sl_fromL l 1 1 rfl]
        repeat (walk_at "pl e")
        refine ⟨by simp, ?_⟩
        rw [if_neg (fun e => (by simpa using c2 : ¬ _) e.1)] at h
        exact h
      · have c2 : (l.drop 1).take 1 = [47] := by simpa using c2
        repeat (walk_at "pl e")
        refine Slc.txt (by omega) ?_
        rw [sl_12 l 2 3 2 rfl rfl]
        repeat (walk_at "pl e")
        refine ite_b (fun c3 => ?_) (fun c3 => ?_)
        · repeat (walk_at "pl e")
          refine ite_t rfl ?_
          repeat (walk_at "pl e")
          refine Slc.txt (by omega) ?_
          rw [sl_fromL l 1 1 rfl]
          repeat (walk_at "pl e")
          refine ⟨by simp, ?_⟩
          rw [if_neg (fun e => e.2 (by simpa using c3))] at h
          exact h
        · repeat (walk_at "pl e")
          refine ite_f (by decide) ?_
          repeat (walk_at "pl e")
          refine Slc.txt (by omega) ?_
          rw [sl_toL l 2 2 rfl]
          repeat (walk_at "pl e")
          refine Slc.txt (by omega) ?_
          rw [sl_fromL l 2 2 rfl]
          repeat (walk_at "pl e")
          refine ⟨by simp, ?_⟩
          have c3 : ¬ (l.drop 2).take 1 = [47] := by simpa using c3
          rw [if_pos ⟨c2, c3⟩] at h tk
          rw [tk]
          exact h
  · refine ite_t (by decide) ?_
    repeat (walk_at "pl e")
    refine Slc.txt (by omega) ?_
    rw [sl_toL l 1 1 rfl]
    repeat (walk_at "pl e")
    refine ite_b (fun c1 => ?_) (fun c1 => ?_)
    · repeat (walk_at "pl e")
      refine ⟨by simp, ?_⟩
      rw [if_neg (by simpa using c1)] at h
      exact h
    · have c1 : l.take 1 = [47] := by simpa using c1
      rw [if_pos c1] at h tk
      repeat (walk_at "pl e")
      refine Slc.txt (by omega) ?_
      rw [sl_12 l 1 2 1 rfl rfl]
      repeat (walk_at "pl e")
      refine ite_b (fun c2 => ?_) (fun c2 => ?_)
      · repeat (walk_at "pl e")
        refine ite_t rfl ?_
        repeat (walk_at "pl e")
        refine Slc.txt (by omega) ?_
        rw [sl_fromL l 1 1 rfl]
        repeat (walk_at "pl e")
        refine ⟨by simp, ?_⟩
        rw [if_neg (fun e => (by simpa using c2 : ¬ _) e.1)] at h
        exact h
      · have c2 : (l.drop 1).take 1 = [47] := by simpa using c2
        repeat (walk_at "pl e")
        refine Slc.txt (by omega) ?_
        rw [sl_12 l 2 3 2 rfl rfl]
        repeat (walk_at "pl e")
        refine ite_b (fun c3 => ?_) (fun c3 => ?_)
        · repeat (walk_at "pl e")
          refine ite_t rfl ?_
          repeat (walk_at "pl e")
          refine Slc.txt (by omega) ?_
          rw [sl_fromL l 1 1 rfl]
          repeat (walk_at "pl e")
          refine ⟨by simp, ?_⟩
          rw [if_neg (fun e => e.2 (by simpa using c3))] at h
          exact h
        · repeat (walk_at "pl e")
          refine ite_f (by decide) ?_
          repeat (walk_at "pl e")
          refine Slc.txt (by omega) ?_
          rw [sl_toL l 2 2 rfl]
          repeat (walk_at "pl e")
          refine Slc.txt (by omega) ?_
          rw [sl_fromL l 2 2 rfl]
          repeat (walk_at "pl e")
          refine ⟨by simp, ?_⟩
          have c3 : ¬ (l.drop 2).take 1 = [47] := by simpa using c3
          rw [if_pos ⟨c2, c3⟩] at h tk
          rw [tk]
          exact h
theorem normpath_ok {g : Gd} {a b c : Addr} (hf : Fn g P4 12 a) (hf9 : Fn g P4 9 b) (hf11 : Fn g P4 11 c) (hb : Free g BI) {o : Bool} {l : List Nat} (hn : l.length ≤ 1000000) {Q : V → Led → Prop} {X : XL} {H : Led}
    (h : ∀ H', H.Sublist H' → Q (.txt o (normS l)) H') : CallT g (2 + 1) (.ref a) [.txt o l] Q X H := by
  obtain ⟨hm, fd, F⟩ := hf
  refine CallT.def_ F (by rw [pars12]; rfl) fun C hC hro => ?_
  rw [pars12]
  refine TSs.le start1 ?_
  refine TSs.cons ?_
  repeat (walk_at "pl e")
  refine TE.callG hC hf9 (by kernel_rfl) (by kernel_rfl) ?_
  repeat (walk_at "pl e")
  refine CallV.fnI hC (fspath_ok hf9 hb ?_) (by decide)
  refine TSs.cons ?_
  refine TS.cut (P := fun f σ' => f = .next ∧ Le ⟨[("path", .txt o l), ("sep", .txt o [47]), ("dot", .txt o [46]), ("dotdot", .txt o [46, 46])], H⟩ σ') ?_ ?_
  · repeat (walk_at "pl e")
    refine call_isinstance_txt (p := true) ?_
    walk_at "pl e"
    cases o
    · refine ite_f (by decide) ?_
      repeat (walk_at "pl e")
      exact ⟨rfl, by walk_at "pl lo", List.Sublist.refl _⟩
    · refine ite_t (by decide) ?_
      repeat (walk_at "pl e")
      exact ⟨rfl, by walk_at "pl lo", List.Sublist.refl _⟩
  rintro _ σ' ⟨rfl, hle⟩
  refine TSs.le hle ?_
  clear hle σ'
  refine TSs.cons ?_
  repeat (walk_at "pl e")
  refine Tru.txt (by omega) ?_
  unfold normS at h
  refine ite_b (fun c1 => ?_) (fun c1 => ?_)
  · have c1 : l = [] := by simpa using c1
    repeat (walk_at "pl e")
    rw [if_pos c1] at h
    exact h _ (List.Sublist.refl _)
  have c1 : l ≠ [] := by simpa using c1
  rw [if_neg c1] at h
  have hr := rootN_le l
  have hsplit := splitS_sum 47 (l.drop (rootN l))
  have hslen := splitS_length 47 (l.drop (rootN l))
  have hspart : ∀ p ∈ splitS 47 (l.drop (rootN l)), p.length ≤ l.length := fun p hp => Nat.le_trans (splitS_part_length hp) (by rw [List.length_drop]; omega)
  have hdl : (l.drop (rootN l)).length ≤ l.length := by rw [List.length_drop]; omega
  have hbnd := fun m => fold_bounds (rootN l) ((splitS 47 (l.drop (rootN l))).take m) []
  refine TSs.nil ?_
  refine TSs.cons ?_
  refine TS.assignTo ?_
  refine TE.callG hC hf11 (by kernel_rfl) (by kernel_rfl) ?_
  repeat (walk_at "pl e")
  refine CallV.fnI hC (splitroot_ok hf11 hf9 hb (by omega) ?_) (by decide)
  refine TAs.tuple hC.calm rfl ?_
  refine TIn.cons (TAs.name (by walk_at "pl st") ?_)
  refine TIn.cons (TAs.name (by walk_at "pl st") ?_)
  refine TIn.cons (TAs.name (by walk_at "pl st") ?_)
  refine TIn.nil ?_
  refine TSs.cons ?_
  refine TS.assign (by walk_at "pl st") ?_
  refine TE.split o ?_
  repeat (walk_at "pl e")
  refine ⟨by omega, ?_⟩
  refine TSs.cons ?_
  refine TS.assign (by walk_at "pl st") ?_
  refine TE.listM ?_
  refine TArgs.nil ⟨by simp, fun aN => ?_⟩
  generalize hcs : splitS 47 (l.drop (rootN l)) = cs at *
  generalize rootN l = r at *
  refine TSs.cons ?_
  refine TS.for_ hC.calm ?_
  repeat (walk_at "pl e")
  refine ⟨_, _, Walk.lst, fun i σ => Le ⟨[("sep", .txt o [47]), ("dot", .txt o [46]), ("dotdot", .txt o [46, 46]), ("initial_slashes", .txt o (List.replicate r 47)), ("new_comps", .ref aN)], (aN, .list ((normC r (cs.take i)).map (.txt o))) :: H⟩ σ,
    ⟨by walk_at "pl lo", List.Sublist.refl _⟩, fun _ _ _ => trivial, ?_, ?_⟩
  · intro i u σ hu hle
    rw [List.getElem?_map] at hu
    obtain ⟨c, hc, rfl⟩ : ∃ c, cs[i]? = some c ∧ u = .txt o c := by
      cases e : cs[i]? with
      | none => rw [e] at hu; cases hu
      | some c => rw [e] at hu; cases hu; exact ⟨c, rfl, rfl⟩
    refine TAs.name (by walk_at "pl st") ?_
    refine TSs.le hle.both ?_
    have nx := normC_take (r := r) hc
    have hclen := hspart c (List.mem_of_getElem? hc)
    have hacc := (hbnd i).1
    rw [List.length_nil, Nat.zero_add] at hacc
    have hacc2 : (cs.take i).length ≤ cs.length := List.length_take_le' i cs
    rw [show (cs.take i).foldl (stepN r) [] = normC r (cs.take i) from rfl] at hacc
    generalize normC r (cs.take i) = acc at hacc nx ⊢
    refine TSs.cons ?_
    refine TS.if_ ?_
    refine TB.cut (P := fun bb σ' => bb = decide (c = [] ∨ c = [46]) ∧ σ' = ⟨setL [("sep", .txt o [47]), ("dot", .txt o [46]), ("dotdot", .txt o [46, 46]), ("initial_slashes", .txt o (List.replicate r 47)), ("new_comps", .ref aN)] "comp" (.txt o c), (aN, .list (acc.map (.txt o))) :: H⟩) ?_ ?_
    · repeat (walk_at "pl e")
      refine Tru.txt (by omega) ?_
      refine ite_b (fun c2 => ?_) (fun c2 => ?_)
      · have c2 : c = [] := by simpa using c2
        exact ⟨by simp [c2], rfl⟩
      · have c2 : c ≠ [] := by simpa using c2
        repeat (walk_at "pl e")
        refine ite_b (fun c3 => ?_) (fun c3 => ?_)
        · have c3 : c = [46] := by simpa using c3
          exact ⟨by simp [c3], rfl⟩
        · have c3 : c ≠ [46] := by simpa using c3
          repeat (walk_at "pl e")
          exact ⟨by simp [c2, c3], rfl⟩
    rintro _ _ ⟨rfl, rfl⟩
    refine ite_b (fun c2 => ?_) (fun c2 => ?_)
    · have c2 : c = [] ∨ c = [46] := by simpa using c2
      repeat (walk_at "pl e")
      refine ⟨by walk_at "pl lo", ?_⟩
      show List.Sublist ((aN, AO.list ((normC r (cs.take (i + 1))).map (.txt o))) :: H) _
      rw [nx]
      unfold stepN
      rw [if_pos c2]
      exact List.Sublist.refl _
    have c2 : ¬ (c = [] ∨ c = [46]) := by simpa using c2
    refine TSs.nil ?_
    refine TSs.cons ?_
    refine TS.if_ ?_
    refine TB.cut (P := fun bb σ' => bb = decide (c ≠ [46, 46] ∨ (r = 0 ∧ acc = []) ∨ (acc ≠ [] ∧ acc[acc.length - 1]? = some [46, 46])) ∧ σ' = ⟨setL [("sep", .txt o [47]), ("dot", .txt o [46]), ("dotdot", .txt o [46, 46]), ("initial_slashes", .txt o (List.replicate r 47)), ("new_comps", .ref aN)] "comp" (.txt o c), (aN, .list (acc.map (.txt o))) :: H⟩) ?_ ?_
    · repeat (walk_at "pl e")
      refine ite_b (fun c3 => ?_) (fun c3 => ?_)
      · have c3 : c ≠ [46, 46] := by simpa using c3
        exact ⟨by simp [c3], rfl⟩
      have c3 : c = [46, 46] := by simpa using c3
      repeat (walk_at "pl e")
      refine Tru.txt (by rw [List.length_replicate]; omega) ?_
      refine ite_b (fun c4 => ?_) (fun c4 => ?_)
      · have c4 : r = 0 := by
          cases r with
          | zero => rfl
          | succ r => simp [List.replicate_succ] at c4
        repeat (walk_at "pl e")
        refine Tru.list (.mt List.mem_cons_self) (by rw [List.length_map]; omega) ?_
        refine ite_b (fun c5 => ?_) (fun c5 => ?_)
        · have c5 : acc = [] := by simpa using c5
          repeat (walk_at "pl e")
          refine ite_t rfl ?_
          exact ⟨by simp [c4, c5], rfl⟩
        · have c5 : acc ≠ [] := by simpa using c5
          have hl : acc.length - 1 < acc.length := by have := List.length_pos_iff.mpr c5; omega
          have hg : (acc.map (V.txt o))[acc.length - 1]? = some (.txt o acc[acc.length - 1]) := by rw [List.getElem?_map, List.getElem?_eq_getElem hl]; rfl
          repeat (walk_at "pl e")
          refine ite_f (by decide) ?_
          repeat (walk_at "pl e")
          refine Tru.list (.mt List.mem_cons_self) (by rw [List.length_map]; omega) ?_
          refine ite_t (by simp [c5]) ?_
          repeat (walk_at "pl e")
          refine Item.list (.mt List.mem_cons_self) (by rw [List.length_map]; omega) ⟨by rw [if_pos (by decide), List.length_map]; omega, by rw [List.length_map]; exact hl⟩ hg ?_
          repeat (walk_at "pl e")
          refine ite_b (fun c7 => ?_) (fun c7 => ?_)
          · have c7 : acc[acc.length - 1] = [46, 46] := by simpa using c7
            repeat (walk_at "pl e")
            refine ite_t rfl ?_
            exact ⟨by rw [List.getElem?_eq_getElem hl, c7]; simp [c5], rfl⟩
          · have c7 : ¬ acc[acc.length - 1] = [46, 46] := by simpa using c7
            refine ite_f (by decide) ?_
            repeat (walk_at "pl e")
            exact ⟨by rw [List.getElem?_eq_getElem hl]; simp [c3, c5, c7], rfl⟩
      · have c4 : r ≠ 0 := by
          intro e; subst e; simp at c4
        refine ite_f (by decide) ?_
        by_cases c5 : acc = []
        · repeat (walk_at "pl e")
          refine Tru.list (.mt List.mem_cons_self) (by rw [List.length_map]; omega) ?_
          refine ite_f (by simp [c5]) ?_
          refine ite_f (by decide) ?_
          repeat (walk_at "pl e")
          exact ⟨by simp [c3, c4, c5], rfl⟩
        · have hl : acc.length - 1 < acc.length := by have := List.length_pos_iff.mpr c5; omega
          have hg : (acc.map (V.txt o))[acc.length - 1]? = some (.txt o acc[acc.length - 1]) := by rw [List.getElem?_map, List.getElem?_eq_getElem hl]; rfl
          repeat (walk_at "pl e")
          repeat (walk_at "pl e")
          refine Tru.list (.mt List.mem_cons_self) (by rw [List.length_map]; omega) ?_
          refine ite_t (by simp [c5]) ?_
          repeat (walk_at "pl e")
          refine Item.list (.mt List.mem_cons_self) (by rw [List.length_map]; omega) ⟨by rw [if_pos (by decide), List.length_map]; omega, by rw [List.length_map]; exact hl⟩ hg ?_
          repeat (walk_at "pl e")
          refine ite_b (fun c7 => ?_) (fun c7 => ?_)
          · have c7 : acc[acc.length - 1] = [46, 46] := by simpa using c7
            repeat (walk_at "pl e")
            refine ite_t rfl ?_
            exact ⟨by rw [List.getElem?_eq_getElem hl, c7]; simp [c5], rfl⟩
          · have c7 : ¬ acc[acc.length - 1] = [46, 46] := by simpa using c7
            refine ite_f (by decide) ?_
            repeat (walk_at "pl e")
            exact ⟨by rw [List.getElem?_eq_getElem hl]; simp [c3, c5, c7], rfl⟩
    rintro _ _ ⟨rfl, rfl⟩
    refine ite_b (fun c3 => ?_) (fun c3 => ?_)
    · have c3 : c ≠ [46, 46] ∨ (r = 0 ∧ acc = []) ∨ (acc ≠ [] ∧ acc[acc.length - 1]? = some [46, 46]) := of_decide_eq_true c3
      refine TSs.cons ?_
      refine TS.expr ?_
      refine TE.appendM ?_
      repeat (walk_at "pl e")
      refine ⟨aN, _, rfl, List.mem_cons_self, ?_⟩
      repeat (walk_at "pl e")
      refine ⟨_, acc.map (.txt o), _, rfl, .head, by rw [List.length_map]; omega, ?_⟩
      repeat (walk_at "pl e")
      refine ⟨by walk_at "pl lo", ?_⟩
      show List.Sublist ((aN, AO.list ((normC r (cs.take (i + 1))).map (.txt o))) :: H) _
      rw [nx]
      unfold stepN
      rw [if_neg c2, if_pos c3, List.map_append]
      exact List.Sublist.refl _
    · have c3 : ¬ (c ≠ [46, 46] ∨ (r = 0 ∧ acc = []) ∨ (acc ≠ [] ∧ acc[acc.length - 1]? = some [46, 46])) := of_decide_eq_false (by simpa using c3)
      repeat (walk_at "pl e")
      refine Tru.list (.mt List.mem_cons_self) (by rw [List.length_map]; omega) ?_
      unfold stepN at nx
      rw [if_neg c2, if_neg c3] at nx
      by_cases c5 : acc = []
      · refine ite_f (by simp [c5]) ?_
        repeat (walk_at "pl e")
        refine ⟨by walk_at "pl lo", ?_⟩
        show List.Sublist ((aN, AO.list ((normC r (cs.take (i + 1))).map (.txt o))) :: H) _
        rw [nx, c5]; exact List.Sublist.refl _
      · refine ite_t (by simp [c5]) ?_
        refine TSs.cons ?_
        refine TS.expr ?_
        refine TE.popM ?_
        repeat (walk_at "pl e")
        have hl : acc.length - 1 < acc.length := by have := List.length_pos_iff.mpr c5; omega
        refine ⟨aN, acc.map (.txt o), .txt o acc[acc.length - 1], _, rfl, .head, by rw [List.length_map]; omega, by rw [List.length_map, List.getElem?_map, List.getElem?_eq_getElem hl]; rfl, ?_⟩
        repeat (walk_at "pl e")
        refine ⟨by walk_at "pl lo", ?_⟩
        show List.Sublist ((aN, AO.list ((normC r (cs.take (i + 1))).map (.txt o))) :: H) _
        rw [nx, List.map_dropLast]
        exact List.Sublist.refl _
  · intro σ hle
    refine TSs.le hle ?_
    rw [List.length_map, List.take_of_length_le (Nat.le_refl _)]
    have hfin := hbnd cs.length
    rw [List.take_of_length_le (Nat.le_refl _), show cs.foldl (stepN r) [] = normC r cs from rfl] at hfin
    obtain ⟨hf1, hf2⟩ := hfin
    rw [List.length_nil, Nat.zero_add] at hf1
    rw [show sumL [] = 0 from rfl, Nat.zero_add] at hf2
    refine TSs.nil ?_
    refine TSs.cons ?_
    repeat (walk_at "pl e")
    refine TE.join o ?_
    repeat (walk_at "pl e")
    have hj : (joinS [47] (normC r cs)).length ≤ 3000000 := by
      rw [joinS_length]
      have : sumL (normC r cs) = ((normC r cs).map List.length).sum := rfl
      simp only [List.length_singleton]
      omega
    refine ⟨_, normC r cs, rfl, .mt List.mem_cons_self, ?_, ?_⟩
    · have : sumL (normC r cs) = ((normC r cs).map List.length).sum := rfl
      simp only [List.length_singleton]
      omega
    refine Bin.add_txt (by rw [List.length_replicate]; omega) ?_
    have h := h ((aN, AO.list ((normC r cs).map (.txt o))) :: H) (List.sublist_cons_self _ H)
    dsimp only at h
    generalize hpath : List.replicate r 47 ++ joinS [47] (normC r cs) = path at *
    have hpl : path.length ≤ 3000002 := by rw [← hpath, List.length_append, List.length_replicate]; omega
    repeat (walk_at "pl e")
    refine TE.boolop ?_
    refine TEb.or_cons ?_
    repeat (walk_at "pl e")
    refine Tru.txt (by omega) ?_
    refine ite_b (fun c6 => ?_) (fun c6 => ?_)
    · have c6 : path ≠ [] := by simpa using c6
      rw [if_neg c6] at h
      exact h
    · have c6 : path = [] := by simpa using c6
      refine TEb.one ?_
      repeat (walk_at "pl e")
      rw [if_pos c6] at h
      exact h
end PL

end
section
open PySem PySem.Calls PyProof.Rows
set_option Elab.async false
set_option linter.unusedVariables false
set_option linter.unusedSimpArgs false
set_option maxRecDepth 100000
set_option maxHeartbeats 4000000

namespace PL
theorem pars14 : parsAt P4 14 = [("script" : Str)] := by kernel_rfl
theorem pars15 : parsAt P4 15 = [("above" : Str), "below", "path"] := by kernel_rfl
theorem pars16 : parsAt P4 16 = [("path" : Str)] := by kernel_rfl
theorem pars17 : parsAt P4 17 = [("script" : Str)] := by kernel_rfl

theorem nat_fdivL (a : Nat) (j : Int) (b : Nat) (h : j = (b : Int)) : (a : Int).fdiv j = ((a / b : Nat) : Int) := by
  rw [h, Int.fdiv_eq_ediv_of_nonneg _ (Int.natCast_nonneg b)]; rfl
theorem nat_fmodL (a : Nat) (j : Int) (b : Nat) (h : j = (b : Int)) : (a : Int).fmod j = ((a % b : Nat) : Int) := by
  rw [h, Int.fmod_eq_emod_of_nonneg _ (Int.natCast_nonneg b)]; rfl
theorem abs_nat (x : Int) : (if x < 0 then -x else x) = (x.natAbs : Int) := by split <;> omega

def kindF (s : List Nat) : List (List Nat) := [[], [], [46, 46], [97], [46], [46, 46], [98], if s = [47] then [46, 46, 46] else s]
def okP (q : List Nat) : Prop := 47 ∉ q ∧ q.length ≤ 3 ∧ ∀ c ∈ q, c < 256
theorem kindF_ok (c : Nat) (hc : c < 256) (d : Nat) (hd : d < 8) : ∃ q, (kindF [c])[d]? = some q ∧ okP q := by
  unfold kindF okP
  match d, hd with
  | 0, _ => exact ⟨_, rfl, by simp⟩
  | 1, _ => exact ⟨_, rfl, by simp⟩
  | 2, _ => exact ⟨_, rfl, by simp⟩
  | 3, _ => exact ⟨_, rfl, by simp⟩
  | 4, _ => exact ⟨_, rfl, by simp⟩
  | 5, _ => exact ⟨_, rfl, by simp⟩
  | 6, _ => exact ⟨_, rfl, by simp⟩
  | 7, _ =>
    refine ⟨_, rfl, ?_⟩
    by_cases h : c = 47
    · subst h; simp
    · have : ¬ ([c] = [47]) := by simpa using h
      rw [if_neg this]
      simp [hc, Ne.symm h]
def GoodW (k : Nat) (w : List (List Nat)) : Prop := w.length ≤ k ∧ ∀ q ∈ w, okP q
def GoodP (p : List Nat) : Prop := ∃ w, GoodW 14 w ∧ p = joinS [47] w
theorem goodW_nil (k : Nat) : GoodW k [] := ⟨Nat.zero_le _, by simp⟩
theorem goodW_add {k : Nat} {w : List (List Nat)} {q : List Nat} (h : GoodW k w) (hq : okP q) : GoodW (k + 1) (w ++ [q]) := by
  refine ⟨by rw [List.length_append]; simpa using h.1, fun p hp => ?_⟩
  rcases List.mem_append.mp hp with hp | hp
  · exact h.2 p hp
  · rw [List.mem_singleton.mp hp]; exact hq
theorem goodW_sum {k : Nat} {w : List (List Nat)} (h : GoodW k w) : (w.map List.length).sum ≤ 3 * k := by
  have key : ∀ (q : List (List Nat)), (∀ p ∈ q, okP p) → (q.map List.length).sum ≤ 3 * q.length := by
    intro q
    induction q with
    | nil => intro _; simp
    | cons a r ih =>
      intro h
      have h1 := (h a (by simp)).2.1
      have h2 := ih fun p hp => h p (List.mem_cons_of_mem _ hp)
      simp only [List.map_cons, List.sum_cons, List.length_cons]; omega
  have := key w h.2
  have := h.1
  omega
theorem goodP_nil : GoodP [] := ⟨[], goodW_nil _, rfl⟩

theorem fronts_ok {g : Gd} {a : Addr} (hf : Fn g P4 14 a) (hb : Free g BI) {xs : List Int} (hx : xs.length ≤ 63) {Q : V → Led → Prop} {X : XL} {H : Led}
    (h : ∀ fr : List (List Nat), fr.length ≤ 15 → (∀ p ∈ fr, GoodP p) → Q (.lst (fr.map (.txt false))) H) : CallT g (0 + 1) (.ref a) [.lst (xs.map .int)] Q X H := by
  obtain ⟨hm, fd, F⟩ := hf
  refine CallT.def_ F (by rw [pars14]; rfl) fun C hC hro => ?_
  rw [pars14]
  refine TSs.le start1 ?_
  refine TSs.cons ?_
  refine TS.assign (by walk_at "pl st") ?_
  refine TE.listM ?_
  repeat (walk_at "pl e")
  refine ⟨by simp, fun aF => ?_⟩
  repeat (walk_at "pl e")
  refine ⟨by simp, ?_⟩
  repeat (walk_at "pl e")
  refine TS.for_ hC.calm ?_
  repeat (walk_at "pl e")
  refine ⟨_, _, Walk.lst, fun i σ => ∃ (fr wk : List (List Nat)) (room : Nat), room ≤ 14 ∧ fr.length + room ≤ 15 ∧ GoodW (14 - room) wk ∧ (∀ p ∈ fr, GoodP p) ∧ Le ⟨[("fronts", .ref aF), ("walk", .lst (wk.map (.txt false))), ("room", .int (room : Int))], (aF, .list (fr.map (.txt false))) :: H⟩ σ,
    ⟨[[]], [], 14, by decide, by decide, goodW_nil _, fun p hp => by rw [List.mem_singleton.mp hp]; exact goodP_nil, ⟨by show Lo [("fronts", .ref aF), ("walk", .lst []), ("room", .int 14)] _; walk_at "pl lo", List.Sublist.refl _⟩⟩, fun _ _ _ => trivial, ?_, ?_⟩
  · rintro i u σ hu ⟨fr, wk, room, hr14, hfr, hwk, hgood, hle⟩
    rw [List.getElem?_map] at hu
    obtain ⟨x, hxi, rfl⟩ : ∃ x, xs[i]? = some x ∧ u = .int x := by
      cases e : xs[i]? with
      | none => rw [e] at hu; cases hu
      | some c => rw [e] at hu; cases hu; exact ⟨c, rfl, rfl⟩
    refine TAs.name (by walk_at "pl st") ?_
    refine TSs.le hle.both ?_
    refine TSs.cons ?_
    repeat (walk_at "pl e")
    refine call_abs ?_
    rw [abs_nat]
    repeat (walk_at "pl e")
    refine Bin.pow_int (by decide) (by decide) (by decide) ?_
    refine Bin.mod_int (by decide) ?_
    rw [nat_fmodL _ _ 68719476736 (by decide)]
    have hn : x.natAbs % 68719476736 < 8 ^ 12 := Nat.mod_lt _ (by decide)
    generalize x.natAbs % 68719476736 = n at hn
    repeat (walk_at "pl e")
    refine Bin.fdiv_int (by decide) (PyProof.noPylong_of_log2 (by decide +kernel)) ?_
    rw [nat_fdivL n 8 8 rfl]
    repeat (walk_at "pl e")
    refine Bin.mod_int (by decide) ?_
    rw [nat_fmodL _ 256 256 rfl]
    repeat (walk_at "pl e")
    refine call_chr (by omega) (by omega) ?_
    rw [Int.toNat_natCast]
    have hs : n / 8 % 256 < 256 := Nat.mod_lt _ (by decide)
    generalize n / 8 % 256 = sg at hs
    refine TSs.cons ?_
    refine TS.assign (by walk_at "pl st") ?_
    refine TE.cut (P := fun v σ' => v = .lst ((kindF [sg]).map (.txt false)) ∧ Le ⟨[("fronts", .ref aF), ("walk", .lst (wk.map (.txt false))), ("room", .int (room : Int)), ("n", .int (n : Int))], (aF, .list (fr.map (.txt false))) :: H⟩ σ') ?_ ?_
    · repeat (walk_at "pl e")
      refine ite_b (fun c1 => ?_) (fun c1 => ?_)
      · have c1 : [sg] = [47] := by simpa using c1
        repeat (walk_at "pl e")
        exact ⟨by simp, by unfold kindF; rw [if_pos c1]; rfl, by walk_at "pl lo", List.Sublist.refl _⟩
      · have c1 : ¬ [sg] = [47] := by simpa using c1
        repeat (walk_at "pl e")
        exact ⟨by simp, by unfold kindF; rw [if_neg c1]; rfl, by walk_at "pl lo", List.Sublist.refl _⟩
    rintro _ σ' ⟨rfl, hle'⟩
    refine TSs.le hle'.both ?_
    have klen : ((kindF [sg]).map (V.txt false)).length = 8 := rfl
    refine TSs.cons ?_
    refine TS.assign (by walk_at "pl st") ?_
    refine TE.listM ?_
    repeat (walk_at "pl e")
    refine Bin.mod_int (by decide) ?_
    rw [nat_fmodL n 8 8 rfl]
    repeat (walk_at "pl e")
    refine ⟨by simp, fun aD => ?_⟩
    refine TSs.cons ?_
    refine TS.while_ (fun m σ => ∃ (n' k : Nat) (ds : List Nat), m = n' ∧ n' < 8 ^ k ∧ ds.length + k ≤ 13 ∧ (∀ d ∈ ds, d < 8) ∧ Le ⟨[("fronts", .ref aF), ("walk", .lst (wk.map (.txt false))), ("room", .int (room : Int)), ("kinds", .lst ((kindF [sg]).map (.txt false))), ("n", .int (n' : Int)), ("figures", .ref aD)], (aD, .list (ds.map fun d : Nat => .int (d : Int))) :: (aF, .list (fr.map (.txt false))) :: H⟩ σ) n
      ⟨n, 12, [n % 8], rfl, hn, by simp, fun d hd => by rw [List.mem_singleton.mp hd]; exact Nat.mod_lt _ (by decide), ⟨by walk_at "pl lo", List.Sublist.refl _⟩⟩ ?_
    rintro n' σ ⟨_, k, ds, rfl, hnk, hdk, hd8, hle⟩
    refine TB.le hle ?_
    repeat (walk_at "pl e")
    refine ite_b (fun c7 => ?_) (fun c7 => ?_)
    · have c7 : 7 < n' := by have := of_decide_eq_true c7; omega
      obtain ⟨k, rfl⟩ : ∃ j, k = j + 1 := by
        cases k with
        | zero => simp at hnk; omega
        | succ j => exact ⟨j, rfl⟩
      refine TSs.cons ?_
      refine TS.aug (by walk_at "pl st") (by walk_at "pl lk") ?_
      repeat (walk_at "pl e")
      refine Inp.fdiv_int (by decide) (PyProof.noPylong_of_log2 (by decide +kernel)) ?_
      rw [nat_fdivL n' 8 8 rfl]
      refine TSs.cons ?_
      refine TS.expr ?_
      refine TE.appendM ?_
      repeat (walk_at "pl e")
      refine ⟨aD, _, rfl, List.mem_cons_self, ?_⟩
      repeat (walk_at "pl e")
      refine Bin.mod_int (by decide) ?_
      rw [nat_fmodL (n' / 8) 8 8 rfl]
      repeat (walk_at "pl e")
      refine ⟨_, ds.map (fun d : Nat => .int (d : Int)), _, rfl, .head, by rw [List.length_map]; omega, ?_⟩
      refine TSs.nil ?_
      refine ⟨n' / 8, by omega, n' / 8, k, ds ++ [n' / 8 % 8], rfl, by rw [Nat.pow_succ] at hnk; omega, by rw [List.length_append, List.length_singleton]; omega, ?_, ⟨by walk_at "pl lo", by rw [List.map_append]; exact List.Sublist.refl _⟩⟩
      intro d hd
      rcases List.mem_append.mp hd with hd | hd
      · exact hd8 d hd
      · rw [List.mem_singleton.mp hd]; exact Nat.mod_lt _ (by decide)
    · refine TSs.nil ?_
      have slice : ∀ {Q' : V → St → Prop} {X' : XP} {σ' : St}, (aD, AO.list (ds.map fun d : Nat => V.int (d : Int))) ∈ σ'.H → Q' (.lst ((ds.take room).map fun d : Nat => .int (d : Int))) σ' → Slc C (.ref aD) none (some (room : Int)) none Q' X' σ' := fun hm q => by
        refine Slc.list (.mt hm) (by rw [List.length_map]; omega) (by decide) ?_
        rw [pick_plain, sl_to, ← List.map_take]; exact q
      have hdt : ∀ d ∈ ds.take room, d < 8 := fun d hd => hd8 d (List.mem_of_mem_take hd)
      have htl : (ds.take room).length ≤ room := List.length_take_le ..
      have htl2 : (ds.take room).length ≤ 13 := by rw [List.length_take]; omega
      refine TSs.cons ?_
      refine TS.for_ hC.calm ?_
      repeat (walk_at "pl e")
      refine slice List.mem_cons_self ?_
      generalize ds.take room = ts at hdt htl htl2 slice
      refine ⟨_, _, Walk.lst, fun j σ => ∃ (fr wk : List (List Nat)), j ≤ ts.length ∧ fr.length + room ≤ 15 + j ∧ GoodW (14 - room + j) wk ∧ (∀ p ∈ fr, GoodP p) ∧ Le ⟨[("fronts", .ref aF), ("walk", .lst (wk.map (.txt false))), ("room", .int (room : Int)), ("kinds", .lst ((kindF [sg]).map (.txt false))), ("figures", .ref aD)], (aD, .list (ds.map fun d : Nat => .int (d : Int))) :: (aF, .list (fr.map (.txt false))) :: H⟩ σ,
        ⟨fr, wk, Nat.zero_le _, hfr, hwk, hgood, ⟨by walk_at "pl lo", List.Sublist.refl _⟩⟩, fun _ _ _ => trivial, ?_, ?_⟩
      · clear hfr hwk hgood hle
        rintro j u σ hu ⟨fr, wk, hj, hfr, hwk, hgood, hle⟩
        rw [List.getElem?_map] at hu
        obtain ⟨d, hdj, rfl⟩ : ∃ d : Nat, ts[j]? = some d ∧ u = .int (d : Int) := by
          cases e : ts[j]? with
          | none => rw [e] at hu; cases hu
          | some c => rw [e] at hu; cases hu; exact ⟨c, rfl, rfl⟩
        have hjl := (List.getElem?_eq_some_iff.mp hdj).1
        have hd8 := hdt d (List.mem_of_getElem? hdj)
        refine TAs.name (by walk_at "pl st") ?_
        refine TSs.le hle.both ?_
        refine TSs.cons ?_
        refine TS.assign (by walk_at "pl st") ?_
        refine TE.cut (P := fun v σ' => ∃ wk', v = .lst (wk'.map (.txt false)) ∧ GoodW (14 - room + j + 1) wk' ∧ Le ⟨[("fronts", .ref aF), ("room", .int (room : Int)), ("kinds", .lst ((kindF [sg]).map (.txt false))), ("figures", .ref aD)], (aD, .list (ds.map fun d : Nat => .int (d : Int))) :: (aF, .list (fr.map (.txt false))) :: H⟩ σ') ?_ ?_
        · repeat (walk_at "pl e")
          refine ite_b (fun c1 => ?_) (fun c1 => ?_)
          · repeat (walk_at "pl e")
            exact ⟨by simp, [], rfl, goodW_nil _, by walk_at "pl lo", List.Sublist.refl _⟩
          · obtain ⟨q, hq, okq⟩ := kindF_ok sg hs d hd8
            repeat (walk_at "pl e")
            refine Item.list (.fz _) (by rw [klen]; decide) ⟨by rw [if_neg (by omega)], by rw [klen]; exact hd8⟩ (by rw [List.getElem?_map, hq]; rfl) ?_
            repeat (walk_at "pl e")
            refine ⟨by simp, ?_⟩
            have := hwk.1
            refine Bin.add_list (.fz _) (.fz _) (by rw [List.length_map, List.length_singleton]; omega) ?_
            exact ⟨wk ++ [q], by rw [List.map_append]; rfl, goodW_add hwk okq, by walk_at "pl lo", List.Sublist.refl _⟩
        rintro _ σ' ⟨wk', rfl, hwk', hle'⟩
        refine TSs.le hle'.both ?_
        have hwk14 : GoodW 14 wk' := ⟨by have := hwk'.1; omega, hwk'.2⟩
        refine TSs.cons ?_
        refine TS.expr ?_
        refine TE.appendM ?_
        repeat (walk_at "pl e")
        refine ⟨aF, _, rfl, List.mem_cons_of_mem _ List.mem_cons_self, ?_⟩
        refine TArgs.cons ?_
        refine TE.joinS ?_
        repeat (walk_at "pl e")
        have hsum := goodW_sum hwk14
        have hl14 := hwk14.1
        refine ⟨_, wk', rfl, .fz _, by simp only [List.length_singleton]; omega, ?_⟩
        repeat (walk_at "pl e")
        refine ⟨_, fr.map (.txt false), _, rfl, .tail .head, by rw [List.length_map]; omega, ?_⟩
        refine TSs.nil ?_
        refine ⟨fr ++ [joinS [47] wk'], wk', by omega, by rw [List.length_append, List.length_singleton]; omega, ⟨by have := hwk'.1; omega, hwk'.2⟩, ?_, ⟨by walk_at "pl lo", by rw [List.map_append]; exact List.Sublist.refl _⟩⟩
        intro p hp
        rcases List.mem_append.mp hp with hp | hp
        · exact hgood p hp
        · rw [List.mem_singleton.mp hp]; exact ⟨wk', hwk14, rfl⟩
      · clear hfr hwk hgood hle
        rintro σ ⟨fr, wk, hj, hfr, hwk, hgood, hle⟩
        rw [List.length_map] at hfr hwk
        refine TSs.nil ?_
        refine TSs.le hle ?_
        repeat (walk_at "pl e")
        refine slice List.mem_cons_self ?_
        repeat (walk_at "pl e")
        refine call_len_list (.fz _) (by rw [List.length_map]; omega) ?_
        rw [List.length_map]
        repeat (walk_at "pl e")
        rw [show (room : Int) - (ts.length : Int) = ((room - ts.length : Nat) : Int) by omega]
        refine ⟨fr, wk, room - ts.length, by omega, by omega, ⟨by have := hwk.1; omega, hwk.2⟩, hgood, ⟨by walk_at "pl lo", List.sublist_cons_self _ _⟩⟩
  · rintro σ ⟨fr, wk, room, hr14, hfr, hwk, hgood, hle⟩
    refine TSs.nil ?_
    refine TSs.le hle ?_
    refine TSs.cons ?_
    refine TS.ret ?_
    refine TE.freeze ?_
    repeat (walk_at "pl e")
    exact ⟨aF, _, H, rfl, .head, h fr (by omega) hgood⟩
end PL

end
section
open PySem PySem.Calls PyProof.Rows
set_option Elab.async false
set_option linter.unusedVariables false
set_option linter.unusedSimpArgs false
set_option linter.unusedSectionVars false
set_option maxRecDepth 100000
namespace PL
/-! the reader of twelve states -/
def tabD : List (List Nat) := [[1, 7, 5], [2, 3, 5], [11, 3, 5], [11, 4, 5], [11, 5, 5], [6, 5, 5], [11, 3, 5], [11, 8, 5], [9, 5, 5], [11, 10, 5], [11, 8, 5], [11, 11, 11]]
def clsD (c : Nat) : Nat := if c = 47 then 0 else if c = 46 then 1 else 2
def stepD (s c : Nat) : Nat := ((tabD[s]?).getD []).getD (clsD c) 0
def runD (l : List Nat) : Nat := l.foldl stepD 0
def accD (s : Nat) : Prop := s = 1 ∨ s = 2 ∨ s = 5 ∨ s = 7 ∨ s = 8
theorem step47 (s : Nat) : stepD s 47 = ((tabD[s]?).getD []).getD 0 0 := rfl
theorem step46 (s : Nat) : stepD s 46 = ((tabD[s]?).getD []).getD 1 0 := rfl
theorem stepO {c : Nat} (h : c ≠ 47) (h2 : c ≠ 46) (s : Nat) : stepD s c = ((tabD[s]?).getD []).getD 2 0 := by unfold stepD clsD; rw [if_neg h, if_neg h2]
theorem stay5 : ∀ {u : List Nat}, 47 ∉ u → u.foldl stepD 5 = 5
  | [], _ => rfl
  | c :: u, h => by
    rw [List.mem_cons, not_or] at h
    have : stepD 5 c = 5 := by
      by_cases h2 : c = 46
      · subst h2; rfl
      · rw [stepO (Ne.symm h.1) h2]; rfl
    rw [List.foldl_cons, this, stay5 h.2]
theorem run_name {n : List Nat} (h : nameN n) {s a b : Nat} (h1 : stepD s 46 = a) (h2 : stepD a 46 = b) (ho : ∀ c, c ≠ 47 → c ≠ 46 → stepD s c = 5) (ha : ∀ c, c ≠ 47 → c ≠ 46 → stepD a c = 5) (hb : ∀ c, c ≠ 47 → stepD b c = 5) : n.foldl stepD s = 5 := by
  obtain ⟨n0, n1, n2, n3⟩ := h
  cases n with
  | nil => exact absurd rfl n0
  | cons c t =>
    rw [List.mem_cons, not_or] at n3
    rw [List.foldl_cons]
    by_cases hc : c = 46
    · subst hc
      rw [h1]
      cases t with
      | nil => exact absurd rfl n1
      | cons d u =>
        have n4 := n3.2
        rw [List.mem_cons, not_or] at n4
        rw [List.foldl_cons]
        by_cases hd : d = 46
        · subst hd
          rw [h2]
          cases u with
          | nil => exact absurd rfl n2
          | cons e v =>
            have n5 := n4.2
            rw [List.mem_cons, not_or] at n5
            rw [List.foldl_cons, hb e (Ne.symm n5.1), stay5 n5.2]
        · rw [ha d (Ne.symm n4.1) hd, stay5 n4.2]
    · rw [ho c (Ne.symm n3.1) hc, stay5 n3.2]
/-- a state from which a name may begin -/
def opens (s : Nat) : Prop := s = 0 ∨ s = 1 ∨ s = 2 ∨ s = 6 ∨ s = 9
theorem run_name' {n : List Nat} (h : nameN n) {s : Nat} (hs : opens s) : n.foldl stepD s = 5 := by
  have hb4 : ∀ c, c ≠ 47 → stepD 4 c = 5 := fun c hc => by
    by_cases h2 : c = 46
    · subst h2; rfl
    · rw [stepO hc h2]; rfl
  have hb8 : ∀ c, c ≠ 47 → stepD 8 c = 5 := fun c hc => by
    by_cases h2 : c = 46
    · subst h2; rfl
    · rw [stepO hc h2]; rfl
  rcases hs with rfl | rfl | rfl | rfl | rfl
  · exact run_name h (a := 7) (b := 8) rfl rfl (fun c p q => by rw [stepO p q]; rfl) (fun c p q => by rw [stepO p q]; rfl) hb8
  · exact run_name h (a := 3) (b := 4) rfl rfl (fun c p q => by rw [stepO p q]; rfl) (fun c p q => by rw [stepO p q]; rfl) hb4
  · exact run_name h (a := 3) (b := 4) rfl rfl (fun c p q => by rw [stepO p q]; rfl) (fun c p q => by rw [stepO p q]; rfl) hb4
  · exact run_name h (a := 3) (b := 4) rfl rfl (fun c p q => by rw [stepO p q]; rfl) (fun c p q => by rw [stepO p q]; rfl) hb4
  · exact run_name h (a := 10) (b := 8) rfl rfl (fun c p q => by rw [stepO p q]; rfl) (fun c p q => by rw [stepO p q]; rfl) hb8
theorem run_names : ∀ {ns : List (List Nat)}, ns ≠ [] → (∀ n ∈ ns, nameN n) → ∀ {s : Nat}, opens s → (joinS [47] ns).foldl stepD s = 5
  | [], h, _, _, _ => absurd rfl h
  | [n], _, hn, s, hs => run_name' (hn n (by simp)) hs
  | n :: m :: ns, _, hn, s, hs => by
    show (n ++ [47] ++ joinS [47] (m :: ns)).foldl stepD s = 5
    rw [List.foldl_append, List.foldl_append, run_name' (hn n (by simp)) hs]
    exact run_names (by simp) (fun x hx => hn x (List.mem_cons_of_mem _ hx)) (s := 6) (.inr (.inr (.inr (.inl rfl))))
theorem run_dds (ns : List (List Nat)) (hn : ∀ n ∈ ns, nameN n) : ∀ (k s : Nat), s = 0 ∨ s = 9 → List.replicate (k + 1) dd ++ ns ≠ [] → (joinS [47] (List.replicate (k + 1) dd ++ ns)).foldl stepD s = if ns = [] then 8 else 5
  | 0, s, hs, _ => by
    cases ns with
    | nil => rcases hs with rfl | rfl <;> rfl
    | cons n ns =>
      show (dd ++ [47] ++ joinS [47] (n :: ns)).foldl stepD s = _
      rw [List.foldl_append, if_neg (by simp)]
      have : (dd ++ [47]).foldl stepD s = 9 := by rcases hs with rfl | rfl <;> rfl
      rw [this]
      exact run_names (by simp) hn (.inr (.inr (.inr (.inr rfl))))
  | k + 1, s, hs, _ => by
    have ih := run_dds ns hn k 9 (.inr rfl) (by simp [List.replicate_succ])
    rw [List.replicate_succ, List.cons_append]
    cases e : List.replicate (k + 1) dd ++ ns with
    | nil => simp [List.replicate_succ] at e
    | cons q qs =>
      show (dd ++ [47] ++ joinS [47] (q :: qs)).foldl stepD s = _
      rw [← e, List.foldl_append]
      have : (dd ++ [47]).foldl stepD s = 9 := by rcases hs with rfl | rfl <;> rfl
      rw [this, ih]
theorem run_out {r : Nat} {cs : List (List Nat)} (h : Norm r cs) : accD (runD (outS r cs)) := by
  obtain ⟨hr, k, ns, rfl, hk, hns⟩ := h
  have hs : (List.replicate r 47).foldl stepD 0 = r := by
    match r, hr with
    | 0, _ => rfl
    | 1, _ => rfl
    | 2, _ => rfl
  unfold outS runD
  split
  · exact .inr (.inr (.inr (.inl rfl)))
  · rename_i hne
    rw [List.foldl_append, hs]
    cases k with
    | zero =>
      rw [List.replicate_zero, List.nil_append] at hne ⊢
      by_cases hn : ns = []
      · subst hn
        rw [show joinS [47] [] = [] from rfl, List.append_nil] at hne
        show accD r
        match r, hr with
        | 0, _ => exact absurd rfl hne
        | 1, _ => exact .inl rfl
        | 2, _ => exact .inr (.inl rfl)
      · rw [run_names hn hns (by match r, hr with | 0, _ => exact .inl rfl | 1, _ => exact .inr (.inl rfl) | 2, _ => exact .inr (.inr (.inl rfl)))]
        exact .inr (.inr (.inl rfl))
    | succ k =>
      have hr0 := hk.resolve_left (by omega)
      subst hr0
      rw [run_dds ns hns k 0 (.inl rfl) (by simp [List.replicate_succ])]
      split
      · exact .inr (.inr (.inr (.inr rfl)))
      · exact .inr (.inr (.inl rfl))
/-- what stands ahead of the piece at hand -/
def pref (r : Nat) (cs : List (List Nat)) : List Nat := List.replicate r 47 ++ (cs.map (· ++ [47])).flatten
theorem pref_snoc (r : Nat) (cs : List (List Nat)) (n : List Nat) : pref r (cs ++ [n]) = pref r cs ++ n ++ [47] := by simp [pref, List.append_assoc]
theorem joinS_snoc : ∀ (cs : List (List Nat)) (n : List Nat), joinS [47] (cs ++ [n]) = (cs.map (· ++ [47])).flatten ++ n
  | [], n => rfl
  | [c], n => by simp [joinS]
  | c :: d :: cs, n => by
    have := joinS_snoc (d :: cs) n
    show c ++ [47] ++ joinS [47] (d :: cs ++ [n]) = _
    rw [this]; simp
theorem out_snoc {r : Nat} {cs : List (List Nat)} {n : List Nat} (h : n ≠ []) : outS r (cs ++ [n]) = pref r cs ++ n := by
  unfold outS pref
  rw [joinS_snoc, if_neg (by simp [h]), List.append_assoc]
def Seen (s : Nat) (q : List Nat) : Prop :=
  (s = 0 ∧ q = []) ∨ (s = 1 ∧ q = [47]) ∨ (s = 2 ∧ q = [47, 47]) ∨ (s = 3 ∧ ∃ r cs, Norm r cs ∧ q = pref r cs ++ [46]) ∨ (s = 4 ∧ ∃ r cs, Norm r cs ∧ q = pref r cs ++ [46, 46]) ∨
  (s = 5 ∧ ∃ r cs n, Norm r cs ∧ nameN n ∧ q = pref r cs ++ n) ∨ (s = 6 ∧ ∃ r cs, Norm r cs ∧ q = pref r cs) ∨ (s = 7 ∧ q = [46]) ∨ (s = 8 ∧ ∃ k, q = pref 0 (List.replicate k dd) ++ [46, 46]) ∨
  (s = 9 ∧ ∃ k, q = pref 0 (List.replicate k dd)) ∨ (s = 10 ∧ ∃ k, q = pref 0 (List.replicate k dd) ++ [46]) ∨ s = 11
theorem norm_name {r : Nat} {cs : List (List Nat)} (h : Norm r cs) {n : List Nat} (hn : nameN n) : Norm r (cs ++ [n]) := by
  have := norm_step h hn.2.2.2
  rwa [step_name hn] at this
theorem norm_dds (k : Nat) : Norm 0 (List.replicate k dd) := ⟨by decide, k, [], by simp, .inr rfl, by simp⟩
theorem name_one {c : Nat} (h : c ≠ 47) (h2 : c ≠ 46) : nameN [c] := ⟨by simp, by simpa using h2, by simp, by simpa using Ne.symm h⟩
theorem name_dot {c : Nat} (h : c ≠ 47) (h2 : c ≠ 46) : nameN [46, c] := ⟨by simp, by simp, by simpa using h2, by simpa using Ne.symm h⟩
theorem name_dd {c : Nat} (h : c ≠ 47) : nameN [46, 46, c] := ⟨by simp, by simp, by simp, by simpa using Ne.symm h⟩
theorem name_more {n : List Nat} {c : Nat} (h : c ≠ 47) (hn : nameN n) : nameN (n ++ [c]) := by
  obtain ⟨a, b, d, e⟩ := hn
  refine ⟨by simp, ?_, ?_, by simp [e, Ne.symm h]⟩
  · intro q
    cases n with
    | nil => exact a rfl
    | cons x t => simp at q
  · intro q
    cases n with
    | nil => exact a rfl
    | cons x t =>
      cases t with
      | nil => simp at q; exact b (by rw [q.1])
      | cons y u => simp at q
theorem seen_step {s : Nat} {q : List Nat} (h : Seen s q) (c : Nat) : Seen (stepD s c) (q ++ [c]) := by
  have c11 : ∀ {s' : Nat}, s' = 11 → Seen s' (q ++ [c]) := fun e => .inr (.inr (.inr (.inr (.inr (.inr (.inr (.inr (.inr (.inr (.inr e))))))))))
  have c5 : ∀ {s' : Nat} (r : Nat) (cs : List (List Nat)) (n : List Nat), s' = 5 → Norm r cs → nameN n → q ++ [c] = pref r cs ++ n → Seen s' (q ++ [c]) := fun r cs n e h1 h2 h3 => .inr (.inr (.inr (.inr (.inr (.inl ⟨e, r, cs, n, h1, h2, h3⟩)))))
  have c3 : ∀ {s' : Nat} (r : Nat) (cs : List (List Nat)), s' = 3 → Norm r cs → q ++ [c] = pref r cs ++ [46] → Seen s' (q ++ [c]) := fun r cs e h1 h3 => .inr (.inr (.inr (.inl ⟨e, r, cs, h1, h3⟩)))
  have c8 : ∀ {s' : Nat} (k : Nat), s' = 8 → q ++ [c] = pref 0 (List.replicate k dd) ++ [46, 46] → Seen s' (q ++ [c]) := fun k e h3 => .inr (.inr (.inr (.inr (.inr (.inr (.inr (.inr (.inl ⟨e, k, h3⟩))))))))
  by_cases hc : c = 47
  · subst hc
    rw [step47]
    rcases h with ⟨rfl, rfl⟩ | ⟨rfl, rfl⟩ | ⟨rfl, rfl⟩ | ⟨rfl, _⟩ | ⟨rfl, _⟩ | ⟨rfl, r, cs, n, h1, h2, rfl⟩ | ⟨rfl, _⟩ | ⟨rfl, _⟩ | ⟨rfl, k, rfl⟩ | ⟨rfl, _⟩ | ⟨rfl, _⟩ | rfl
    · exact .inr (.inl ⟨rfl, rfl⟩)
    · exact .inr (.inr (.inl ⟨rfl, rfl⟩))
    · exact c11 rfl
    · exact c11 rfl
    · exact c11 rfl
    · exact .inr (.inr (.inr (.inr (.inr (.inr (.inl ⟨rfl, r, cs ++ [n], norm_name h1 h2, (pref_snoc r cs n).symm⟩))))))
    · exact c11 rfl
    · exact c11 rfl
    · exact .inr (.inr (.inr (.inr (.inr (.inr (.inr (.inr (.inr (.inl ⟨rfl, k + 1, by rw [List.replicate_succ', pref_snoc]⟩)))))))))
    · exact c11 rfl
    · exact c11 rfl
    · exact c11 rfl
  by_cases hd : c = 46
  · subst hd
    rw [step46]
    rcases h with ⟨rfl, rfl⟩ | ⟨rfl, rfl⟩ | ⟨rfl, rfl⟩ | ⟨rfl, r, cs, h1, rfl⟩ | ⟨rfl, r, cs, h1, rfl⟩ | ⟨rfl, r, cs, n, h1, h2, rfl⟩ | ⟨rfl, r, cs, h1, rfl⟩ | ⟨rfl, rfl⟩ | ⟨rfl, k, rfl⟩ | ⟨rfl, k, rfl⟩ | ⟨rfl, k, rfl⟩ | rfl
    · exact .inr (.inr (.inr (.inr (.inr (.inr (.inr (.inl ⟨rfl, rfl⟩)))))))
    · exact c3 1 [] rfl (norm_nil (by decide)) rfl
    · exact c3 2 [] rfl (norm_nil (by decide)) rfl
    · exact .inr (.inr (.inr (.inr (.inl ⟨rfl, r, cs, h1, by rw [List.append_assoc]; rfl⟩))))
    · exact c5 r cs [46, 46, 46] rfl h1 (name_dd hc) (by rw [List.append_assoc]; rfl)
    · exact c5 r cs (n ++ [46]) rfl h1 (name_more hc h2) (List.append_assoc ..)
    · exact c3 r cs rfl h1 rfl
    · exact c8 0 rfl rfl
    · exact c5 0 _ [46, 46, 46] rfl (norm_dds k) (name_dd hc) (by rw [List.append_assoc]; rfl)
    · exact .inr (.inr (.inr (.inr (.inr (.inr (.inr (.inr (.inr (.inr (.inl ⟨rfl, k, rfl⟩))))))))))
    · exact c8 k rfl (by rw [List.append_assoc]; rfl)
    · exact c11 rfl
  · rw [stepO hc hd]
    rcases h with ⟨rfl, rfl⟩ | ⟨rfl, rfl⟩ | ⟨rfl, rfl⟩ | ⟨rfl, r, cs, h1, rfl⟩ | ⟨rfl, r, cs, h1, rfl⟩ | ⟨rfl, r, cs, n, h1, h2, rfl⟩ | ⟨rfl, r, cs, h1, rfl⟩ | ⟨rfl, rfl⟩ | ⟨rfl, k, rfl⟩ | ⟨rfl, k, rfl⟩ | ⟨rfl, k, rfl⟩ | rfl
    · exact c5 0 [] [c] rfl (norm_nil (by decide)) (name_one hc hd) rfl
    · exact c5 1 [] [c] rfl (norm_nil (by decide)) (name_one hc hd) rfl
    · exact c5 2 [] [c] rfl (norm_nil (by decide)) (name_one hc hd) rfl
    · exact c5 r cs [46, c] rfl h1 (name_dot hc hd) (by rw [List.append_assoc]; rfl)
    · exact c5 r cs [46, 46, c] rfl h1 (name_dd hc) (by rw [List.append_assoc]; rfl)
    · exact c5 r cs (n ++ [c]) rfl h1 (name_more hc h2) (List.append_assoc ..)
    · exact c5 r cs [c] rfl h1 (name_one hc hd) rfl
    · exact c5 0 [] [46, c] rfl (norm_nil (by decide)) (name_dot hc hd) rfl
    · exact c5 0 _ [46, 46, c] rfl (norm_dds k) (name_dd hc) (by rw [List.append_assoc]; rfl)
    · exact c5 0 _ [c] rfl (norm_dds k) (name_one hc hd) rfl
    · exact c5 0 _ [46, c] rfl (norm_dds k) (name_dot hc hd) (by rw [List.append_assoc]; rfl)
    · exact c11 rfl
theorem seen_run : ∀ (l q : List Nat) (s : Nat), Seen s q → Seen (l.foldl stepD s) (q ++ l)
  | [], q, s, h => by simpa using h
  | c :: l, q, s, h => by
    have := seen_run l (q ++ [c]) (stepD s c) (seen_step h c)
    rwa [List.append_assoc] at this
theorem acc_out {l : List Nat} (h : accD (runD l)) : ∃ r cs, Norm r cs ∧ l = outS r cs := by
  have k := seen_run l [] 0 (.inl ⟨rfl, rfl⟩)
  rw [List.nil_append] at k
  have h : accD (l.foldl stepD 0) := h
  revert h k
  generalize l.foldl stepD 0 = s
  intro k h
  rcases h with rfl | rfl | rfl | rfl | rfl
  · have k : l = [47] := by simpa [Seen] using k
    exact ⟨1, [], norm_nil (by decide), k⟩
  · have k : l = [47, 47] := by simpa [Seen] using k
    exact ⟨2, [], norm_nil (by decide), k⟩
  · have k : ∃ r cs n, Norm r cs ∧ nameN n ∧ l = pref r cs ++ n := by simpa [Seen] using k
    obtain ⟨r, cs, n, h1, h2, h3⟩ := k
    exact ⟨r, cs ++ [n], norm_name h1 h2, by rw [out_snoc h2.1]; exact h3⟩
  · have k : l = [46] := by simpa [Seen] using k
    exact ⟨0, [], norm_nil (by decide), k⟩
  · have k : ∃ k, l = pref 0 (List.replicate k dd) ++ [46, 46] := by simpa [Seen] using k
    obtain ⟨k, h3⟩ := k
    refine ⟨0, List.replicate k dd ++ [dd], ?_, by rw [out_snoc (by simp)]; exact h3⟩
    rw [← List.replicate_succ']; exact norm_dds (k + 1)
theorem acc_iff (l : List Nat) : accD (runD l) ↔ normS l = l := by
  constructor
  · intro h
    obtain ⟨r, cs, h1, rfl⟩ := acc_out h
    exact norm_out h1
  · intro h
    have := run_out (norm_text l)
    rwa [← normS_eq, h] at this
end PL

end
section
open PySem PySem.Calls PyProof.Rows
set_option Elab.async false
set_option linter.unusedVariables false
set_option linter.unusedSimpArgs false
set_option linter.unusedSectionVars false
set_option maxRecDepth 100000
namespace PL
/-! the tree of places -/
abbrev Lb := List (Nat × List (List Nat))
structure TreeOK (ab : List Nat) (be : List (Str × V)) (lb : Lb) : Prop where
  len : lb.length = ab.length
  bl : be.length ≤ ab.length
  inj : ∀ (i j : Nat) x, lb[i]? = some x → lb[j]? = some x → i = j
  n0 : lb[0]? = some (1, [])
  n1 : lb[1]? = some (2, [])
  n22 : lb[22]? = some (0, [])
  up : ∀ (i r : Nat) cs, lb[i]? = some (r, cs) → cs.length < 20 → ∃ j : Nat, ab[i]? = some j ∧ lb[j]? = some (r, stepN r cs dd)
  par : ∀ (i r : Nat) cs p, lb[i]? = some (r, cs ++ [p]) → nameN p → ∃ j : Nat, lb[j]? = some (r, cs)
  has : ∀ (n : Nat) p v, nameN p → vAt be (strOf (keyL n p)) = some v → ∃ (j r : Nat) (cs : List (List Nat)), v = .int (j : Int) ∧ lb[n]? = some (r, cs) ∧ lb[j]? = some (r, cs ++ [p])
  hasnt : ∀ (n : Nat) p (r : Nat) cs, nameN p → lb[n]? = some (r, cs) → vAt be (strOf (keyL n p)) = none → ∀ j : Nat, lb[j]? ≠ some (r, cs ++ [p])
theorem TreeOK.add {ab : List Nat} {be : List (Str × V)} {lb : Lb} (T : TreeOK ab be lb) {n r : Nat} {cs : List (List Nat)} {p : List Nat} (hn : lb[n]? = some (r, cs)) (hp : nameN p) (hv : vAt be (strOf (keyL n p)) = none) :
    TreeOK (ab ++ [n]) (vPut be (strOf (keyL n p)) (.int (ab.length : Int))) (lb ++ [(r, cs ++ [p])]) := by
  have new := T.hasnt n p r cs hp hn hv
  have hlen := T.len
  have last : (lb ++ [(r, cs ++ [p])])[ab.length]? = some (r, cs ++ [p]) := by rw [← hlen]; exact List.getElem?_concat_length
  refine ⟨by simp [hlen], ?_, ?_, get_pre T.n0, get_pre T.n1, get_pre T.n22, ?_, ?_, ?_, ?_⟩
  · have := vPut_length be (strOf (keyL n p)) (.int (ab.length : Int))
    have := T.bl
    rw [List.length_append, List.length_singleton]; omega
  · intro i j x hi hj
    rcases get_snoc hi with hi | ⟨hi, ex⟩ <;> rcases get_snoc hj with hj | ⟨hj, ey⟩
    · exact T.inj i j x hi hj
    · subst ey; exact absurd hi (new i)
    · subst ex; exact absurd hj (new j)
    · omega
  · intro i r' cs' hi hc
    rcases get_snoc hi with hi' | ⟨hi', ex⟩
    · obtain ⟨j, h1, h2⟩ := T.up i r' cs' hi' hc
      exact ⟨j, get_pre h1, get_pre h2⟩
    · cases ex
      refine ⟨n, ?_, ?_⟩
      · rw [hi', hlen]; exact List.getElem?_concat_length
      · rw [step_up hp]; exact get_pre hn
  · intro i r' cs' q hi hq
    rcases get_snoc hi with hi | ⟨hi, ex⟩
    · obtain ⟨j, h⟩ := T.par i r' cs' q hi hq
      exact ⟨j, get_pre h⟩
    · rw [Prod.mk.injEq] at ex
      obtain ⟨rfl, e⟩ := ex
      obtain ⟨rfl, _⟩ := List.append_inj' e rfl
      exact ⟨n, get_pre hn⟩
  · intro m q v hq hm
    rw [vAt_put] at hm
    by_cases e : strOf (keyL m q) = strOf (keyL n p)
    · rw [if_pos e] at hm
      obtain ⟨rfl, rfl⟩ := keyL_inj (strOf_inj e)
      cases hm
      exact ⟨ab.length, r, cs, rfl, get_pre hn, last⟩
    · rw [if_neg e] at hm
      obtain ⟨j, r', cs', h1, h2, h3⟩ := T.has m q v hq hm
      exact ⟨j, r', cs', h1, get_pre h2, get_pre h3⟩
  · intro m q r' cs' hq hm hv' j hj
    rw [vAt_put] at hv'
    by_cases e : strOf (keyL m q) = strOf (keyL n p)
    · rw [if_pos e] at hv'; cases hv'
    rw [if_neg e] at hv'
    rcases get_snoc hm with hm1 | ⟨hm1, ex⟩
    · rcases get_snoc hj with hj | ⟨hj, ey⟩
      · exact T.hasnt m q r' cs' hq hm1 hv' j hj
      · rw [Prod.mk.injEq] at ey
        obtain ⟨rfl, e2⟩ := ey
        obtain ⟨rfl, e3⟩ := List.append_inj' e2 rfl
        have : q = p := by simpa using e3
        subst this
        have := T.inj m n _ hm1 hn
        subst this
        exact e rfl
    · cases ex
      rcases get_snoc hj with hj | ⟨hj, ey⟩
      · obtain ⟨i, hi⟩ := T.par j r (cs ++ [p]) q hj hq
        exact new i hi
      · have := congrArg (fun x => x.2.length) ey
        simp at this
def ab0 : List Nat := [0, 1, 2] ++ (List.range 20).map (2 + ·)
def lb0 : Lb := [(1, []), (2, [])] ++ (List.range 21).map fun i => (0, List.replicate (20 - i) dd)
theorem tree0 : TreeOK ab0 [] lb0 := by
  have hd : ∀ x ∈ lb0, ∀ c ∈ x.2, c = dd := by decide +kernel
  have hin : ∀ (i r : Nat) cs p, lb0[i]? = some (r, cs ++ [p]) → ¬ nameN p := fun i r cs p h hp =>
    hp.2.2.1 (hd _ (List.mem_of_getElem? h) p (by simp))
  refine ⟨by decide +kernel, by decide +kernel, ?_, by decide +kernel, by decide +kernel, by decide +kernel, ?_, fun i r cs p h hp => absurd hp (hin i r cs p h), fun n p v hp h => by simp [vAt] at h, fun n p r cs hp hn hv j hj => hin j r cs p hj hp⟩
  · have hn : lb0.Nodup := by decide +kernel
    intro i j x hi hj
    exact (List.getElem?_inj (List.getElem?_eq_some_iff.mp hi).1 hn).mp (hi.trans hj.symm)
  · have key : (List.range 23).all (fun i => match lb0[i]?, ab0[i]? with
      | some (r, cs), some j => decide (20 ≤ cs.length) || decide (lb0[j]? = some (r, stepN r cs dd))
      | _, _ => false) = true := by decide +kernel
    intro i r cs hi hc
    have hil : i < 23 := (List.getElem?_eq_some_iff.mp hi).1
    have := List.all_eq_true.mp key i (List.mem_range.mpr hil)
    rw [hi] at this
    cases hab : ab0[i]? with
    | none => rw [hab] at this; cases this
    | some j =>
      rw [hab] at this
      dsimp only at this
      rw [decide_eq_false (by omega), Bool.false_or, decide_eq_true_eq] at this
      exact ⟨j, rfl, this⟩
end PL

end
section
open PySem PySem.Calls PyProof.Rows
set_option Elab.async false
set_option linter.unusedVariables false
set_option linter.unusedSimpArgs false
set_option maxRecDepth 100000
set_option maxHeartbeats 4000000

namespace PL
theorem leadN_spec : ∀ l : List Nat, (∀ i, i < leadN l → l[i]? = some 47) ∧ l[leadN l]? ≠ some 47
  | [] => ⟨fun i h => by simp [leadN] at h, by simp⟩
  | x :: r => by
    obtain ⟨h1, h2⟩ := leadN_spec r
    by_cases hx : x = 47
    · subst hx
      have e : leadN (47 :: r) = leadN r + 1 := by simp [leadN]
      rw [e]
      refine ⟨fun i hi => ?_, by simpa using h2⟩
      cases i with
      | zero => rfl
      | succ i => simpa using h1 i (by omega)
    · have e : leadN (x :: r) = 0 := by simp [leadN, hx]
      rw [e]
      exact ⟨fun i hi => by omega, by simpa using hx⟩
theorem drop_take_one (w : List Nat) (n c : Nat) : (w.drop n).take 1 = [c] ↔ w[n]? = some c := by
  cases h : w[n]? with
  | none => rw [List.drop_eq_nil_of_le (by simpa using h)]; simp
  | some x =>
    obtain ⟨hn, hx⟩ := List.getElem?_eq_some_iff.mp h
    rw [List.drop_eq_getElem_cons hn, hx]; simp
theorem goodP_split {l : List Nat} (h : GoodP l) : (splitS 47 l).length ≤ 14 ∧ (∀ p ∈ splitS 47 l, p.length ≤ 3) ∧ l.length ≤ 56 ∧ ∀ c ∈ l, c < 256 := by
  obtain ⟨w, ⟨hw, hok⟩, rfl⟩ := h
  have hs := goodW_sum ⟨hw, hok⟩
  have hj : (joinS [47] w).length ≤ 56 := by
    rw [joinS_length]; simp only [List.length_singleton]; omega
  refine ⟨?_, ?_, hj, ?_⟩
  · cases w with
    | nil => decide
    | cons p q => rw [splitS_join 47 (p :: q) (by simp) fun c hc => (hok c hc).1]; exact hw
  · cases w with
    | nil => intro p hp; simp [joinS, splitS] at hp; subst hp; decide
    | cons p q => rw [splitS_join 47 (p :: q) (by simp) fun c hc => (hok c hc).1]; exact fun c hc => (hok c hc).2.1
  · intro c hc
    rcases joinS_mem hc with e | ⟨p, hp, e⟩
    · simp at e; omega
    · exact (hok p hp).2.2 c e
theorem normC_len (r : Nat) (cs : List (List Nat)) : (normC r cs).length ≤ cs.length := by
  have := (fold_bounds r cs []).1
  simpa [normC] using this
theorem get_prefix {α : Type} {l m : List α} (h : l <+: m) {i : Nat} {x : α} (k : l[i]? = some x) : m[i]? = some x := by
  obtain ⟨t, rfl⟩ := h
  rw [List.getElem?_append_left (List.getElem?_eq_some_iff.mp k).1]; exact k

theorem place_ok {g : Gd} {a : Addr} (hf : Fn g P4 15 a) (hb : Free g BI) {aA aB : Addr} {ab : List Nat} {be : List (Str × V)} {lb : Lb} (T : TreeOK ab be lb) (hab : ab.length ≤ 1000) {l : List Nat} (hp : GoodP l) {Q : V → Led → Prop} {X : XL} {K : Led}
    (h : ∀ ab' be' lb' (j : Nat), TreeOK ab' be' lb' → lb <+: lb' → ab'.length ≤ ab.length + 14 → lb'[j]? = some (rootN l, normC (rootN l) (splitS 47 l)) → Q (.int (j : Int)) (K ++ [(aB, .dictS be'), (aA, .list (ab'.map fun n : Nat => .int (n : Int)))])) :
    CallT g (0 + 1) (.ref a) [.ref aA, .ref aB, .txt false l] Q X (K ++ [(aB, .dictS be), (aA, .list (ab.map fun n : Nat => .int (n : Int)))]) := by
  obtain ⟨hl14, hl3, hlen, hchars⟩ := goodP_split hp
  clear hp
  obtain ⟨hm, fd, F⟩ := hf
  refine CallT.def_ F (by rw [pars15]; rfl) fun C hC hro => ?_
  rw [pars15]
  refine TSs.le (start3 (by decide) (by decide) (by decide)) ?_
  refine TSs.cons ?_
  refine TS.assign (by walk_at "pl st") ?_
  refine TE.listM ?_
  repeat (walk_at "pl e")
  refine ⟨by simp, fun aP => ?_⟩
  generalize hHH : K ++ [(aB, AO.dictS be), (aA, AO.list (ab.map fun n : Nat => V.int (n : Int)))] = HH
  refine TSs.cons ?_
  refine TS.for_ hC.calm ?_
  repeat (walk_at "pl e")
  refine ⟨_, _, Walk.str, fun i σ => Le ⟨[("above", .ref aA), ("below", .ref aB), ("path", .txt false l), ("pieces", .ref aP)], (aP, .list ((splitS 47 (l.take i)).map (.txt false))) :: HH⟩ σ, ⟨by walk_at "pl lo", List.Sublist.refl _⟩, fun _ _ _ => trivial, ?_, ?_⟩
  · intro i u σ hu hle
    rw [List.getElem?_map] at hu
    obtain ⟨c, hci, rfl⟩ : ∃ c, l[i]? = some c ∧ u = .txt false [c] := by
      cases e : l[i]? with
      | none => rw [e] at hu; cases hu
      | some c => rw [e] at hu; cases hu; exact ⟨c, rfl, rfl⟩
    refine TAs.name (by walk_at "pl st") ?_
    refine TSs.le hle.both ?_
    have nx : splitS 47 (l.take (i + 1)) = if c = 47 then splitS 47 (l.take i) ++ [[]] else bump (splitS 47 (l.take i)) c := by
      rw [List.take_add_one, hci]; exact splitS_snoc 47 c (l.take i)
    have hpl := splitS_length 47 (l.take i)
    have hne := splitS_ne 47 (l.take i)
    have hpp := fun p hp => splitS_part_length (c := 47) (l := l.take i) (p := p) hp
    have htl : (l.take i).length ≤ l.length := List.length_take_le' i l
    generalize splitS 47 (l.take i) = ps at nx hpl hne hpp ⊢
    have hp0 : 0 < ps.length := List.length_pos_iff.mpr hne
    refine TSs.cons ?_
    repeat (walk_at "pl e")
    refine ite_b (fun c1 => ?_) (fun c1 => ?_)
    · have c1 : c = 47 := by simpa using c1
      rw [if_pos c1] at nx
      refine TSs.cons ?_
      refine TS.expr ?_
      refine TE.appendM ?_
      repeat (walk_at "pl e")
      refine ⟨aP, _, rfl, List.mem_cons_self, ?_⟩
      repeat (walk_at "pl e")
      refine ⟨_, ps.map (.txt false), _, rfl, .head, by rw [List.length_map]; omega, ?_⟩
      repeat (walk_at "pl e")
      refine ⟨by walk_at "pl lo", ?_⟩
      show List.Sublist ((aP, AO.list ((splitS 47 (l.take (i + 1))).map (.txt false))) :: HH) _
      rw [nx, List.map_append]
      exact List.Sublist.refl _
    · have c1 : ¬ c = 47 := by simpa using c1
      rw [if_neg c1] at nx
      have hg : ps[ps.length - 1]? = some (ps.getLast hne) := getLast_of hne
      have hgl : (ps.getLast hne).length ≤ 56 := by have := hpp _ (List.getLast_mem hne); omega
      unfold bump at nx
      rw [hg] at nx
      generalize ps.getLast hne = q at hg hgl nx
      refine TSs.cons ?_
      refine TS.augSub ?_
      repeat (walk_at "pl e")
      refine Get.listBack (.mt List.mem_cons_self) (by rw [List.length_map]; omega) (by decide) (j := ps.length - 1) (by rw [List.length_map]; omega) (by rw [List.getElem?_map, hg]; rfl) ?_
      repeat (walk_at "pl e")
      refine Inp.add_str (by rw [List.length_singleton]; omega) ?_
      refine Put.ledBack .head (by rw [List.length_map]; omega) (by decide) (j := ps.length - 1) (by rw [List.length_map]; omega) ?_
      repeat (walk_at "pl e")
      refine ⟨by walk_at "pl lo", ?_⟩
      show List.Sublist ((aP, AO.list ((splitS 47 (l.take (i + 1))).map (.txt false))) :: HH) _
      rw [nx, List.map_set]
      exact List.Sublist.refl _
  intro σ hle
  refine TSs.le hle ?_
  rw [List.length_map, List.take_of_length_le (Nat.le_refl _)]
  refine TSs.nil ?_
  refine TSs.freeze (.head) (L := [("above", .ref aA), ("below", .ref aB), ("path", .txt false l), ("pieces", .lst ((splitS 47 l).map (.txt false)))]) (.cons rfl (.cons rfl (.cons rfl (.fz rfl .nil)))) ?_
  obtain ⟨ld1, ld2⟩ := leadN_spec l
  have hrl := rootN_lead l
  have hr2 := rootN_le2 l
  refine TSs.cons ?_
  refine TS.assign (by walk_at "pl st") ?_
  repeat (walk_at "pl e")
  refine TS.while_ (fun m σ => ∃ k : Nat, m = l.length - k ∧ k ≤ leadN l ∧ Le ⟨[("above", .ref aA), ("below", .ref aB), ("path", .txt false l), ("pieces", .lst ((splitS 47 l).map (.txt false))), ("lead", .int (k : Int))], HH⟩ σ) _
    ⟨0, rfl, Nat.zero_le _, by rw [show ((0 : Nat) : Int) = 0 from rfl]; walk_at "pl lo", List.Sublist.refl _⟩ ?_
  rintro _ σ ⟨k, rfl, hk, hle⟩
  refine TB.le hle ?_
  repeat (walk_at "pl e")
  refine Slc.txt (by omega) ?_
  rw [sl_12 l (k : Int) ((k : Int) + 1) k rfl rfl]
  repeat (walk_at "pl e")
  have e2 := drop_take_one l k 47
  refine ite_b (fun c1 => ?_) (fun c1 => ?_)
  · have c1 := e2.mp (by simpa using c1)
    have hkl : k < l.length := (List.getElem?_eq_some_iff.mp c1).1
    repeat (walk_at "pl e")
    refine ⟨l.length - (k + 1), by omega, k + 1, rfl, ?_, ?_⟩
    · rcases Nat.lt_or_ge k (leadN l) with q | q
      · exact q
      · have : k = leadN l := by omega
        subst this; exact absurd c1 ld2
    · refine ⟨?_, List.Sublist.refl _⟩
      rw [show ((k + 1 : Nat) : Int) = (k : Int) + 1 from rfl]
      walk_at "pl lo"
  have c1 : l[k]? ≠ some 47 := fun e => c1 (by simpa using e2.mpr e)
  have hkl : k = leadN l := by
    rcases Nat.lt_or_ge k (leadN l) with q | q
    · exact absurd (ld1 k q) c1
    · omega
  rw [hkl]
  generalize leadN l = lead at hrl
  clear hkl c1 e2 hk hle ld1 ld2
  generalize rootN l = r at hrl hr2 h
  have h47 := fun (p : List Nat) hp => splitS_free 47 (l := l) (p := p) hp
  generalize splitS 47 l = ps at hl14 hl3 h h47
  refine TSs.nil ?_
  refine TSs.cons ?_
  refine TS.assign (by walk_at "pl st") ?_
  refine TE.cut (P := fun v σ' => (∃ j : Nat, v = .int (j : Int) ∧ lb[j]? = some (r, [])) ∧ Le ⟨[("above", .ref aA), ("below", .ref aB), ("pieces", .lst (ps.map (.txt false)))], HH⟩ σ') ?_ ?_
  · repeat (walk_at "pl e")
    refine ite_b (fun c1 => ?_) (fun c1 => ?_)
    · have c1 : lead = 0 := by have : (lead : Int) = 0 := by simpa using c1
                               omega
      subst c1
      repeat (walk_at "pl e")
      exact ⟨⟨22, rfl, by rw [hrl]; exact T.n22⟩, by walk_at "pl lo", List.Sublist.refl _⟩
    · have c1 : lead ≠ 0 := by intro e; subst e; exact c1 rfl
      repeat (walk_at "pl e")
      refine ite_b (fun c2 => ?_) (fun c2 => ?_)
      · have c2 : lead = 2 := by have : (lead : Int) = 2 := by simpa using c2
                                 omega
        subst c2
        repeat (walk_at "pl e")
        exact ⟨⟨1, rfl, by rw [hrl]; exact T.n1⟩, by walk_at "pl lo", List.Sublist.refl _⟩
      · have c2 : lead ≠ 2 := by intro e; subst e; exact c2 rfl
        repeat (walk_at "pl e")
        exact ⟨⟨0, rfl, by rw [hrl, if_neg c2, if_pos (by omega)]; exact T.n0⟩, by walk_at "pl lo", List.Sublist.refl _⟩
  rintro _ σ' ⟨⟨j0, rfl, hj0⟩, hle'⟩
  refine TSs.le hle'.both ?_
  clear hle' hrl
  subst hHH
  refine TSs.cons ?_
  refine TS.for_ hC.calm ?_
  repeat (walk_at "pl e")
  refine ⟨_, _, Walk.lst, fun i σ => ∃ (ab' : List Nat) (be' : List (Str × V)) (lb' : Lb) (j : Nat), i ≤ ps.length ∧ TreeOK ab' be' lb' ∧ lb <+: lb' ∧ ab'.length ≤ ab.length + i ∧ lb'[j]? = some (r, normC r (ps.take i)) ∧ Le ⟨[("above", .ref aA), ("below", .ref aB), ("node", .int (j : Int))], K ++ [(aB, .dictS be'), (aA, .list (ab'.map fun n : Nat => .int (n : Int)))]⟩ σ,
    ⟨ab, be, lb, j0, Nat.zero_le _, T, List.prefix_rfl, Nat.le_refl _, hj0, by walk_at "pl lo", List.Sublist.refl _⟩, fun _ _ _ => trivial, ?_, ?_⟩
  · rintro i u σ hu ⟨ab', be', lb', j, hi, T', hpre, hab', hj, hle⟩
    rw [List.getElem?_map] at hu
    obtain ⟨p, hpi, rfl⟩ : ∃ p, ps[i]? = some p ∧ u = .txt false p := by
      cases e : ps[i]? with
      | none => rw [e] at hu; cases hu
      | some c => rw [e] at hu; cases hu; exact ⟨c, rfl, rfl⟩
    have hil := (List.getElem?_eq_some_iff.mp hpi).1
    have hp3 := hl3 p (List.mem_of_getElem? hpi)
    have hp47 := h47 p (List.mem_of_getElem? hpi)
    have nx := normC_take (r := r) hpi
    have hcl := normC_len r (ps.take i)
    rw [List.length_take] at hcl
    have hjl : j < ab'.length := by rw [← T'.len]; exact (List.getElem?_eq_some_iff.mp hj).1
    refine TAs.name (by walk_at "pl st") ?_
    refine TSs.le hle.both ?_
    clear hle
    have memB : (aB, AO.dictS be') ∈ K ++ [(aB, AO.dictS be'), (aA, AO.list (ab'.map fun n : Nat => V.int (n : Int)))] := by simp
    have memA : (aA, AO.list (ab'.map fun n : Nat => V.int (n : Int))) ∈ K ++ [(aB, AO.dictS be'), (aA, AO.list (ab'.map fun n : Nat => V.int (n : Int)))] := by simp
    refine TSs.cons ?_
    repeat (walk_at "pl e")
    refine ite_b (fun c1 => ?_) (fun c1 => ?_)
    · have c1 : p = dd := by simpa using c1
      subst c1
      obtain ⟨j', h1, h2⟩ := T'.up j r _ hj (by omega)
      refine TSs.cons ?_
      refine TS.assign (by walk_at "pl st") ?_
      repeat (walk_at "pl e")
      refine Item.list (.mt memA) (by rw [List.length_map]; omega) ⟨by rw [if_neg (by omega)], by rw [List.length_map]; exact hjl⟩ (by rw [List.getElem?_map, h1]; rfl) ?_
      repeat (walk_at "pl e")
      exact ⟨ab', be', lb', j', hil, T', hpre, by omega, by rw [nx]; exact h2, by walk_at "pl lo", List.Sublist.refl _⟩
    have c1 : ¬ p = dd := by simpa using c1
    refine TSs.cons ?_
    repeat (walk_at "pl e")
    refine ite_b (fun c2 => ?_) (fun c2 => ?_)
    rotate_left
    · have c2 : p = [] := by simpa using c2
      subst c2
      refine ite_f (by decide) ?_
      repeat (walk_at "pl e")
      rw [step_nil] at nx
      exact ⟨ab', be', lb', j, hil, T', hpre, by omega, by rw [nx]; exact hj, by walk_at "pl lo", List.Sublist.refl _⟩
    have c2 : ¬ p = [] := by simpa using c2
    repeat (walk_at "pl e")
    refine ite_b (fun c3 => ?_) (fun c3 => ?_)
    rotate_left
    · have c3 : p = [46] := by simpa using c3
      subst c3
      refine ite_f (by decide) ?_
      repeat (walk_at "pl e")
      rw [step_dot] at nx
      exact ⟨ab', be', lb', j, hil, T', hpre, by omega, by rw [nx]; exact hj, by walk_at "pl lo", List.Sublist.refl _⟩
    have c3 : ¬ p = [46] := by simpa using c3
    have hname : nameN p := ⟨c2, c3, c1, hp47⟩
    rw [step_name hname] at nx
    repeat (walk_at "pl e")
    refine ite_t rfl ?_
    refine TSs.cons ?_
    refine TS.assign (by walk_at "pl st") ?_
    repeat (walk_at "pl e")
    refine call_str_nat (by omega) ?_
    have hdl := decL_len (n := j) (by omega)
    repeat (walk_at "pl e")
    refine Bin.add_txt (by rw [List.length_singleton]; omega) ?_
    repeat (walk_at "pl e")
    refine Bin.add_txt (by rw [List.length_append, List.length_singleton]; omega) ?_
    refine TSs.cons ?_
    refine TS.cut (P := fun f σ' => f = .next ∧ ∃ (ab2 : List Nat) (be2 : List (Str × V)) (lb2 : Lb) (j2 : Nat), TreeOK ab2 be2 lb2 ∧ lb <+: lb2 ∧ ab2.length ≤ ab.length + (i + 1) ∧ vAt be2 (strOf (keyL j p)) = some (.int (j2 : Int)) ∧ lb2[j2]? = some (r, normC r (ps.take i) ++ [p]) ∧
        Le ⟨[("above", .ref aA), ("below", .ref aB), ("key", .txt false (keyL j p))], K ++ [(aB, .dictS be2), (aA, .list (ab2.map fun n : Nat => .int (n : Int)))]⟩ σ') ?_ ?_
    · repeat (walk_at "pl e")
      refine Cmp.notInD (DL.str memB) KeyV.str ?_
      repeat (walk_at "pl e")
      cases hv : vAt be' (strOf (keyL j p)) with
      | some v =>
        obtain ⟨j2, r', cs', rfl, h2, h3⟩ := T'.has j p v hname hv
        rw [hj] at h2
        cases h2
        have hv : vAt be' (strOf (decL j ++ [47] ++ p)) = some (.int (j2 : Int)) := hv
        rw [hv]
        refine ite_f (by simp) ?_
        repeat (walk_at "pl e")
        exact ⟨rfl, ab', be', lb', j2, T', hpre, by omega, hv, h3, by show Lo [("above", .ref aA), ("below", .ref aB), ("key", .txt false (decL j ++ [47] ++ p))] _; walk_at "pl lo", List.Sublist.refl _⟩
      | none =>
        have hv2 : vAt be' (strOf (decL j ++ [47] ++ p)) = none := hv
        rw [hv2]
        refine ite_t rfl ?_
        have T2 := T'.add hj hname hv
        have hlen2 := T'.len
        have hbl := T'.bl
        refine TSs.cons ?_
        refine TS.assignSub ?_
        repeat (walk_at "pl e")
        refine call_len_list (.mt memA) (by rw [List.length_map]; omega) ?_
        rw [List.length_map]
        repeat (walk_at "pl e")
        refine Put.dictS ((Upd.head).app K) (by omega) ?_
        refine TSs.cons ?_
        refine TS.expr ?_
        refine TE.appendM ?_
        repeat (walk_at "pl e")
        refine ⟨aA, ab'.map (fun n : Nat => .int (n : Int)), rfl, by simp, ?_⟩
        repeat (walk_at "pl e")
        refine ⟨_, ab'.map (fun n : Nat => .int (n : Int)), _, rfl, (Upd.tail .head).app K, by rw [List.length_map]; omega, ?_⟩
        repeat (walk_at "pl e")
        refine ⟨rfl, ab' ++ [j], vPut be' (strOf (keyL j p)) (.int (ab'.length : Int)), lb' ++ [(r, normC r (ps.take i) ++ [p])], ab'.length, T2, hpre.trans (List.prefix_append _ _), by rw [List.length_append, List.length_singleton]; omega, by rw [vAt_put, if_pos rfl], by rw [← hlen2]; exact List.getElem?_concat_length, ?_, ?_⟩
        · show Lo [("above", .ref aA), ("below", .ref aB), ("key", .txt false (decL j ++ [47] ++ p))] _
          walk_at "pl lo"
        · rw [List.map_append]; exact List.Sublist.refl _
    rintro _ σ' ⟨rfl, ab2, be2, lb2, j2, T2, hpre2, hab2, hv, hj2, hle⟩
    refine TSs.le hle ?_
    clear hle
    have memB2 : (aB, AO.dictS be2) ∈ K ++ [(aB, AO.dictS be2), (aA, AO.list (ab2.map fun n : Nat => V.int (n : Int)))] := by simp
    refine TSs.cons ?_
    refine TS.assign (by walk_at "pl st") ?_
    repeat (walk_at "pl e")
    refine Item.dict (DL.str memB2) KeyV.str hv ?_
    repeat (walk_at "pl e")
    exact ⟨ab2, be2, lb2, j2, hil, T2, hpre2, hab2, by rw [nx]; exact hj2, by walk_at "pl lo", List.Sublist.refl _⟩
  · rintro σ ⟨ab', be', lb', j, hi, T', hpre, hab', hj, hle⟩
    rw [List.length_map] at hi hab' hj
    rw [List.take_of_length_le (Nat.le_refl _)] at hj
    refine TSs.nil ?_
    refine TSs.le hle ?_
    repeat (walk_at "pl e")
    exact h ab' be' lb' j T' hpre (by omega) hj

end PL

end
section
open PySem PySem.Calls PyProof.Rows
set_option Elab.async false
set_option linter.unusedVariables false
set_option linter.unusedSimpArgs false
set_option maxRecDepth 100000
set_option maxHeartbeats 400000

namespace PL
theorem runD_lt : ∀ (l : List Nat) (s : Nat), s < 12 → l.foldl stepD s < 12
  | [], s, h => h
  | c :: l, s, h => by
    have key : ∀ s, s < 12 → ∀ k, k < 3 → ((tabD[s]?).getD []).getD k 0 < 12 := by decide
    have hc : clsD c < 3 := by unfold clsD; (repeat' split) <;> decide
    exact runD_lt l _ (key s h _ hc)
def tabI : List (List Int) := [[1, 7, 5], [2, 3, 5], [11, 3, 5], [11, 4, 5], [11, 5, 5], [6, 5, 5], [11, 3, 5], [11, 8, 5], [9, 5, 5], [11, 10, 5], [11, 8, 5], [11, 11, 11]]
theorem tab_get {s k : Nat} (hs : s < 12) (hk : k < 3) : ∃ row, tabI[s]? = some row ∧ row.length = 3 ∧ row[k]? = some ((((tabD[s]?).getD []).getD k 0 : Nat) : Int) := by
  have key : ∀ s, s < 12 → ∀ k, k < 3 → ((tabI[s]?).getD []).length = 3 ∧ ((tabI[s]?).getD [])[k]? = some ((((tabD[s]?).getD []).getD k 0 : Nat) : Int) := by decide
  have hl : s < tabI.length := hs
  refine ⟨tabI[s], List.getElem?_eq_getElem hl, ?_⟩
  have := key s hs k hk
  rwa [List.getElem?_eq_getElem hl] at this
theorem acc_dec {s : Nat} (hs : s < 12) : ((toDs (([1, 2, 5, 7, 8] : List Int).map .int)).any fun y => PyData.eqv y (toD (.int (s : Int)))) = decide (s = 1 ∨ s = 2 ∨ s = 5 ∨ s = 7 ∨ s = 8) := by
  have key : ∀ s : Nat, s < 12 → ((toDs (([1, 2, 5, 7, 8] : List Int).map .int)).any fun y => PyData.eqv y (toD (.int (s : Int)))) = decide (s = 1 ∨ s = 2 ∨ s = 5 ∨ s = 7 ∨ s = 8) := by decide +kernel
  exact key s hs
theorem taken_ok {g : Gd} {a : Addr} (hf : Fn g P4 16 a) (hb : Free g BI) {l : List Nat} {Q : V → Led → Prop} {X : XL} {H : Led} (h : Q (.bool (normS l == l)) H) : CallT g (0 + 1) (.ref a) [.txt false l] Q X H := by
  obtain ⟨hm, fd, F⟩ := hf
  refine CallT.def_ F (by rw [pars16]; rfl) fun C hC hro => ?_
  rw [pars16]
  with_reducible refine TSs.le start1 ?_
  with_reducible refine TSs.consE (st := ?_) (r := ?_) ?_ ?_
  rotate_left 2
  · exact rfl
  with_reducible refine TS.assignRows (rs := [[1, 7, 5], [2, 3, 5], [11, 3, 5], [11, 4, 5], [11, 5, 5], [6, 5, 5]]) ?_ ?_ ?_ ?_ ?_
  · walk_at "pl st"
  · kernel_rfl
  · decide +kernel
  · decide +kernel
  intro aT
  with_reducible refine TSs.cons ?_
  with_reducible refine TS.augRows (rs := [[11, 3, 5], [11, 8, 5], [9, 5, 5], [11, 10, 5], [11, 8, 5], [11, 11, 11]]) ?_ ?_ ?_ ?_ ?_ .head ?_
  · walk_at "pl st"
  · walk_at "pl lk"
  · kernel_rfl
  · decide +kernel
  · decide +kernel
  refine TSs.freeze (.head) (L := [("path", .txt false l), ("table", .lst (tabI.map fun r => .lst (r.map .int)))]) (.cons rfl (.fz rfl .nil)) ?_
  refine TSs.cons ?_
  repeat (walk_at "pl e")
  refine TS.for_ hC.calm ?_
  repeat (walk_at "pl e")
  refine ⟨_, _, Walk.str, fun i σ => Le ⟨[("table", .lst (tabI.map fun r => .lst (r.map .int))), ("state", .int ((runD (l.take i) : Nat) : Int))], H⟩ σ, ⟨by show Lo [("table", .lst (tabI.map fun r => .lst (r.map .int))), ("state", .int 0)] _; walk_at "pl lo", List.Sublist.refl _⟩, fun _ _ _ => trivial, ?_, ?_⟩
  · intro i u σ hu hle
    rw [List.getElem?_map] at hu
    obtain ⟨c, hci, rfl⟩ : ∃ c, l[i]? = some c ∧ u = .txt false [c] := by
      cases e : l[i]? with
      | none => rw [e] at hu; cases hu
      | some c => rw [e] at hu; cases hu; exact ⟨c, rfl, rfl⟩
    refine TAs.name (by walk_at "pl st") ?_
    refine TSs.le hle.both ?_
    have nx : runD (l.take (i + 1)) = stepD (runD (l.take i)) c := by
      unfold runD
      rw [List.take_add_one, hci, List.foldl_append]; rfl
    have hs := runD_lt (l.take i) 0 (by decide)
    have hs : runD (l.take i) < 12 := hs
    generalize runD (l.take i) = s at nx hs ⊢
    have hk : clsD c < 3 := by unfold clsD; (repeat' split) <;> decide
    obtain ⟨row, r1, r2, r3⟩ := tab_get hs hk
    refine TSs.cons ?_
    refine TS.assign (by walk_at "pl st") ?_
    refine TE.sub ?_
    refine TE.cut (P := fun v σ' => v = .lst (row.map .int) ∧ σ' = ⟨setL [("table", .lst (tabI.map fun r => .lst (r.map .int))), ("state", .int (s : Int))] "sign" (.txt false [c]), H⟩) ?_ ?_
    · repeat (walk_at "pl e")
      refine Item.list (.fz _) (by decide +kernel) ⟨by rw [if_neg (by omega)], by rw [List.length_map]; exact hs⟩ (by rw [List.getElem?_map, r1]; rfl) ?_
      exact ⟨rfl, rfl⟩
    rintro _ _ ⟨rfl, rfl⟩
    refine TE.cut (P := fun v σ' => v = .int (clsD c : Int) ∧ σ' = ⟨setL [("table", .lst (tabI.map fun r => .lst (r.map .int))), ("state", .int (s : Int))] "sign" (.txt false [c]), H⟩) ?_ ?_
    · unfold clsD
      repeat (walk_at "pl e")
      refine ite_b (fun c1 => ?_) (fun c1 => ?_)
      · have c1 : c = 47 := by simpa using c1
        repeat (walk_at "pl e")
        exact ⟨by rw [if_pos c1]; rfl, rfl⟩
      · have c1 : ¬ c = 47 := by simpa using c1
        repeat (walk_at "pl e")
        refine ite_b (fun c2 => ?_) (fun c2 => ?_)
        · have c2 : c = 46 := by simpa using c2
          repeat (walk_at "pl e")
          exact ⟨by rw [if_neg c1, if_pos c2]; rfl, rfl⟩
        · have c2 : ¬ c = 46 := by simpa using c2
          repeat (walk_at "pl e")
          exact ⟨by rw [if_neg c1, if_neg c2]; rfl, rfl⟩
    rintro _ _ ⟨rfl, rfl⟩
    refine Item.list (.fz _) (by rw [List.length_map]; omega) ⟨by rw [if_neg (by omega)], by rw [List.length_map]; omega⟩ (by rw [List.getElem?_map, r3]; rfl) ?_
    repeat (walk_at "pl e")
    refine ⟨?_, List.Sublist.refl _⟩
    rw [nx]
    show Lo [("table", .lst (tabI.map fun r => .lst (r.map .int))), ("state", .int ((((tabD[s]?).getD []).getD (clsD c) 0 : Nat) : Int))] _
    walk_at "pl lo"
  · intro σ hle
    refine TSs.le hle ?_
    rw [List.length_map, List.take_of_length_le (Nat.le_refl _)]
    have hs : runD l < 12 := runD_lt l 0 (by decide)
    have hacc := acc_iff l
    unfold accD at hacc
    refine TSs.nil ?_
    refine TSs.cons ?_
    refine TS.ret ?_
    refine TE.cmp ?_
    repeat (walk_at "pl e")
    refine ⟨by simp, ?_⟩
    refine Cmp.in_list (vs := ([1, 2, 5, 7, 8] : List Int).map .int) (.fz _) rfl rfl (by decide) ?_
    rw [acc_dec hs]
    have e : (normS l == l) = decide (runD l = 1 ∨ runD l = 2 ∨ runD l = 5 ∨ runD l = 7 ∨ runD l = 8) := by
      rw [Bool.eq_iff_iff, beq_iff_eq, decide_eq_true_eq]; exact hacc.symm
    rw [e] at h
    exact h
end PL

end
section
open PySem PySem.Calls PyProof.Rows
set_option Elab.async false
set_option linter.unusedVariables false
set_option linter.unusedSimpArgs false
set_option maxRecDepth 100000
set_option maxHeartbeats 400000

namespace PL
structure Fs4 (g : Gd) (a9 a11 a12 a14 a15 a16 : Addr) : Prop where
  b : Free g BI
  f9 : Fn g P4 9 a9
  f11 : Fn g P4 11 a11
  f12 : Fn g P4 12 a12
  f14 : Fn g P4 14 a14
  f15 : Fn g P4 15 a15
  f16 : Fn g P4 16 a16
def FormsOK (fo : List (Int × V)) (lb : Lb) : Prop := ∀ k v, vAt fo k = some v → ∃ (j r : Nat) (cs : List (List Nat)), k = (j : Int) ∧ lb[j]? = some (r, cs) ∧ v = .txt false (outS r cs)
def PlacesOK (pl : List (Str × V)) (lb : Lb) : Prop := ∀ l v, vAt pl (strOf l) = some v → ∃ (j r : Nat) (cs : List (List Nat)), v = .int (j : Int) ∧ lb[j]? = some (r, cs) ∧ Norm r cs ∧ l = outS r cs
theorem FormsOK.get {fo : List (Int × V)} {lb : Lb} (h : FormsOK fo lb) {j r : Nat} {cs : List (List Nat)} (hj : lb[j]? = some (r, cs)) : (vAt fo (j : Int)).getD (.txt false (outS r cs)) = .txt false (outS r cs) := by
  cases e : vAt fo (j : Int) with
  | none => rfl
  | some v =>
    obtain ⟨j', r', cs', h1, h2, rfl⟩ := h _ _ e
    have : j = j' := by omega
    subst this
    rw [hj] at h2
    cases h2; rfl
theorem PlacesOK.get {pl : List (Str × V)} {ab : List Nat} {be : List (Str × V)} {lb : Lb} (T : TreeOK ab be lb) (h : PlacesOK pl lb) {j r : Nat} {cs : List (List Nat)} (hj : lb[j]? = some (r, cs)) (hn : Norm r cs) : (vAt pl (strOf (outS r cs))).getD (.int (j : Int)) = .int (j : Int) := by
  cases e : vAt pl (strOf (outS r cs)) with
  | none => rfl
  | some v =>
    obtain ⟨j', r', cs', rfl, h2, h3, h4⟩ := h _ _ e
    obtain ⟨rfl, rfl⟩ := out_inj hn h3 h4
    have := T.inj j j' _ hj h2
    subst this; rfl
theorem FormsOK.put {fo : List (Int × V)} {lb lb' : Lb} (h : FormsOK fo lb) (hp : lb <+: lb') {j r : Nat} {cs : List (List Nat)} (hj : lb'[j]? = some (r, cs)) : FormsOK (vPut fo (j : Int) (.txt false (outS r cs))) lb' := by
  intro k v hk
  rw [vAt_put] at hk
  split at hk
  · rename_i e; cases hk; exact ⟨j, r, cs, e, hj, rfl⟩
  · obtain ⟨j', r', cs', h1, h2, h3⟩ := h k v hk
    exact ⟨j', r', cs', h1, get_prefix hp h2, h3⟩
theorem FormsOK.pre {fo : List (Int × V)} {lb lb' : Lb} (h : FormsOK fo lb) (hp : lb <+: lb') : FormsOK fo lb' := fun k v hk =>
  let ⟨j', r', cs', h1, h2, h3⟩ := h k v hk; ⟨j', r', cs', h1, get_prefix hp h2, h3⟩
theorem PlacesOK.pre {fo : List (Str × V)} {lb lb' : Lb} (h : PlacesOK fo lb) (hp : lb <+: lb') : PlacesOK fo lb' := fun k v hk =>
  let ⟨j', r', cs', h1, h2, h3⟩ := h k v hk; ⟨j', r', cs', h1, get_prefix hp h2, h3⟩
theorem PlacesOK.put {pl : List (Str × V)} {lb : Lb} (h : PlacesOK pl lb) {j r : Nat} {cs : List (List Nat)} (hj : lb[j]? = some (r, cs)) (hn : Norm r cs) : PlacesOK (vPut pl (strOf (outS r cs)) (.int (j : Int))) lb := by
  intro k v hk
  rw [vAt_put] at hk
  split at hk
  · rename_i e; cases hk; exact ⟨j, r, cs, rfl, hj, hn, strOf_inj e⟩
  · exact h k v hk
theorem normS_len (l : List Nat) (h : l.length ≤ 56) : (normS l).length ≤ 200 := by
  rw [normS_eq]
  have h1 := rootN_le2 l
  have h2 := fold_bounds (rootN l) (splitS 47 l) []
  have h3 := splitS_length 47 l
  have h4 := splitS_sum 47 l
  have e : (splitS 47 l).foldl (stepN (rootN l)) [] = normC (rootN l) (splitS 47 l) := rfl
  rw [e] at h2
  generalize normC (rootN l) (splitS 47 l) = cs at h2
  have hj := joinS_length [47] cs
  have : sumL cs = (cs.map List.length).sum := rfl
  simp only [List.length_nil, List.length_singleton] at h2 hj
  have : sumL [] = 0 := rfl
  unfold outS
  split
  · simp
  · rw [List.length_append, List.length_replicate]; omega
theorem normS_chars {l : List Nat} (h : ∀ c ∈ l, c < 256) : ∀ c ∈ normS l, c < 256 := by
  rw [normS_eq]
  have key : ∀ (ps acc : List (List Nat)), (∀ p ∈ ps, ∀ c ∈ p, c < 256) → (∀ p ∈ acc, ∀ c ∈ p, c < 256) → ∀ p ∈ ps.foldl (stepN (rootN l)) acc, ∀ c ∈ p, c < 256 := by
    intro ps
    induction ps with
    | nil => intro acc _ h; exact h
    | cons p ps ih =>
      intro acc h1 h2
      refine ih _ (fun q hq => h1 q (List.mem_cons_of_mem _ hq)) ?_
      unfold stepN
      split
      · exact h2
      · split
        · intro q hq
          rcases List.mem_append.mp hq with hq | hq
          · exact h2 q hq
          · rw [List.mem_singleton.mp hq]; exact h1 p List.mem_cons_self
        · exact fun q hq => h2 q (List.dropLast_subset _ hq)
  have hc := key (splitS 47 l) [] (fun p hp c hc => h c (splitS_mem hp c hc)) (by simp)
  have e : (splitS 47 l).foldl (stepN (rootN l)) [] = normC (rootN l) (splitS 47 l) := rfl
  rw [e] at hc
  unfold outS
  intro c h1
  split at h1
  · simp at h1; omega
  · rcases List.mem_append.mp h1 with h1 | h1
    · have := (List.mem_replicate.mp h1).2; omega
    · rcases joinS_mem h1 with e | ⟨p, hp, e⟩
      · simp at e; omega
      · exact hc p hp c e

theorem law4_ok {g : Gd} {a a9 a11 a12 a14 a15 a16 : Addr} (hf : Fn g P4 17 a) (fs : Fs4 g a9 a11 a12 a14 a15 a16) {xs : List Int} (hx : xs.length ≤ 63) {X : XL} : CallT g (99 + 1) (.ref a) [.lst (xs.map .int)] (fun v _ => v = .bool true) X [] := by
  have hb := fs.b
  obtain ⟨hm, fd, F⟩ := hf
  refine CallT.def_ F (by rw [pars17]; rfl) fun C hC hro => ?_
  rw [pars17]
  refine TSs.le start1 ?_
  refine TSs.cons ?_
  repeat (walk_at "pl e")
  refine call_sum hC.calm (.fz _) ?_
  repeat (walk_at "pl e")
  refine Bin.mod_int (by decide) ?_
  repeat (walk_at "pl e")
  generalize (xs.sum.fmod 2 == 1) = o
  refine ⟨by simp, ?_⟩
  repeat (walk_at "pl e")
  refine call_range2 ?_
  repeat (walk_at "pl e")
  refine call_list_rng hC.calm (small_range (by decide) (by decide) (by decide) (by decide)) (by decide +kernel) (by decide) fun aR => ?_
  refine Bin.add_listM (.fz _) (.mt List.mem_cons_self) (by decide +kernel) fun aA => ?_
  refine TSs.cons ?_
  refine TS.assign (by walk_at "pl st") ?_
  refine TE.dictS fun aB => ?_
  refine TSs.cons ?_
  refine TS.assign (by walk_at "pl st") ?_
  refine TE.dictI fun aFo => ?_
  refine TSs.cons ?_
  refine TS.assign (by walk_at "pl st") ?_
  refine TE.dictS fun aPl => ?_
  refine TSs.le (σ' := ⟨[("script", .lst (xs.map .int)), ("octets", .bool o), ("above", .ref aA), ("below", .ref aB), ("forms", .ref aFo), ("places", .ref aPl)], [(aPl, .dictS []), (aFo, .dictI []), (aB, .dictS []), (aA, .list (ab0.map fun n : Nat => .int (n : Int)))]⟩)
    ⟨by walk_at "pl lo", .cons_cons _ (.cons_cons _ (.cons_cons _ (.cons_cons _ (List.nil_sublist _))))⟩ ?_
  refine TSs.cons ?_
  refine TS.for_ hC.calm ?_
  refine TE.callG hC fs.f14 (by kernel_rfl) (by kernel_rfl) ?_
  refine TArgs.cons ?_
  refine TE.cut (P := fun v σ' => (∃ ys : List Int, v = .lst (ys.map .int) ∧ ys.length ≤ 63) ∧ σ' = ⟨[("script", .lst (xs.map .int)), ("octets", .bool o), ("above", .ref aA), ("below", .ref aB), ("forms", .ref aFo), ("places", .ref aPl)], [(aPl, .dictS []), (aFo, .dictI []), (aB, .dictS []), (aA, .list (ab0.map fun n : Nat => .int (n : Int)))]⟩) ?_ ?_
  · refine TE.boolop ?_
    refine TEb.or_cons ?_
    repeat (walk_at "pl e")
    refine Tru.list (.fz _) (by rw [List.length_map]; omega) ?_
    refine ite_b (fun c1 => ?_) (fun c1 => ?_)
    · exact ⟨⟨xs, rfl, hx⟩, rfl⟩
    · refine TEb.one ?_
      repeat (walk_at "pl e")
      exact ⟨by simp, ⟨[1187, 1667], rfl, by decide⟩, rfl⟩
  rintro _ _ ⟨⟨ys, rfl, hyl⟩, rfl⟩
  repeat (walk_at "pl e")
  refine CallV.fnI hC (fronts_ok fs.f14 hb hyl ?_) (by decide)
  intro fr hfl hgood
  refine ⟨_, _, Walk.lst, fun i σ => ∃ (ab : List Nat) (be : List (Str × V)) (lb : Lb) (fo : List (Int × V)) (pl : List (Str × V)), TreeOK ab be lb ∧ i ≤ 15 ∧ ab.length ≤ 23 + 14 * i ∧ FormsOK fo lb ∧ PlacesOK pl lb ∧ fo.length ≤ i ∧ pl.length ≤ i ∧
      Le ⟨[("octets", .bool o), ("above", .ref aA), ("below", .ref aB), ("forms", .ref aFo), ("places", .ref aPl)], [(aPl, .dictS pl), (aFo, .dictI fo), (aB, .dictS be), (aA, .list (ab.map fun n : Nat => .int (n : Int)))]⟩ σ,
    ⟨ab0, [], lb0, [], [], tree0, by decide, by decide +kernel, fun k v h => by simp [vAt] at h, fun k v h => by simp [vAt] at h, by decide, by decide, by walk_at "pl lo", List.Sublist.refl _⟩, fun _ _ _ => trivial, ?_, ?_⟩
  · rintro i u σ hu ⟨ab, be, lb, fo, pl, T, hi15, habl, hfo, hpl, hfol, hpll, hle⟩
    rw [List.getElem?_map] at hu
    obtain ⟨p, hpi, rfl⟩ : ∃ p, fr[i]? = some p ∧ u = .txt false p := by
      cases e : fr[i]? with
      | none => rw [e] at hu; cases hu
      | some c => rw [e] at hu; cases hu; exact ⟨c, rfl, rfl⟩
    have hil := (List.getElem?_eq_some_iff.mp hpi).1
    have hgp := hgood p (List.mem_of_getElem? hpi)
    obtain ⟨_, _, hplen, hpch⟩ := goodP_split hgp
    refine TAs.name (by walk_at "pl st") ?_
    refine TSs.le hle.both ?_
    clear hle hu
    generalize hH : ([(aPl, AO.dictS pl), (aFo, AO.dictI fo), (aB, AO.dictS be), (aA, AO.list (ab.map fun n : Nat => V.int (n : Int)))] : Led) = H0
    refine TSs.le (σ' := ⟨[("path", .txt false p), ("octets", .bool o), ("above", .ref aA), ("below", .ref aB), ("forms", .ref aFo), ("places", .ref aPl)], H0⟩) ⟨by walk_at "pl lo", List.Sublist.refl _⟩ ?_
    refine TSs.cons ?_
    refine TS.assign (by walk_at "pl st") ?_
    refine TE.cut (P := fun v σ' => v = .txt o p ∧ σ' = ⟨[("path", .txt false p), ("octets", .bool o), ("above", .ref aA), ("below", .ref aB), ("forms", .ref aFo), ("places", .ref aPl)], H0⟩) ?_ ?_
    · repeat (walk_at "pl e")
      cases o
      · refine ite_f (by decide) ?_
        repeat (walk_at "pl e")
        exact ⟨rfl, rfl⟩
      · refine ite_t rfl ?_
        repeat (walk_at "pl e")
        refine TE.listcompF hC (by walk_at "pl comp") ?_
        repeat (walk_at "pl e")
        refine ⟨Nat, p, fun c => .txt false [c], fun c => some (.int (c : Int)), [], H0, _, Walk.str, fun _ _ => trivial, List.Sublist.refl _, by walk_at "pl lf", by omega, ?_, ?_⟩
        · intro C' hC' c hc
          refine TAs.name (hC'.stL (by kernel_rfl)) ?_
          refine TIfs.nil ?_
          refine ite_t rfl ?_
          repeat (walk_at "pl e")
          refine call_ord ?_
          exact ⟨rfl, by walk_at "pl lo", List.Sublist.refl _⟩
        rw [filterMap_some]
        repeat (walk_at "pl e")
        refine call_bytes hC.calm (.fz _) hpch (by omega) ?_
        exact ⟨rfl, rfl⟩
    rintro _ _ ⟨rfl, rfl⟩
    refine TSs.cons ?_
    refine TS.assign (by walk_at "pl st") ?_
    refine TE.callG hC fs.f12 (by kernel_rfl) (by kernel_rfl) ?_
    repeat (walk_at "pl e")
    refine CallV.fnI hC (normpath_ok fs.f12 fs.f9 fs.f11 hb (by omega) ?_) (by decide)
    intro H2 hH2
    have hnl := normS_len p hplen
    have hnc := normS_chars hpch
    have hni := norm_idem p
    have hne := normS_eq p
    refine TSs.le (σ' := ⟨[("told", .txt o (normS p)), ("path", .txt false p), ("octets", .bool o), ("above", .ref aA), ("below", .ref aB), ("forms", .ref aFo), ("places", .ref aPl)], H0⟩) ⟨by walk_at "pl lo", hH2⟩ ?_
    clear hH2 H2
    refine TSs.cons ?_
    repeat (walk_at "pl e")
    refine call_isinstance_txt (p := true) ?_
    repeat (walk_at "pl e")
    rw [show ((o == true) != o) = false by cases o <;> rfl]
    refine ite_f (by decide) ?_
    repeat (walk_at "pl e")
    refine call_isinstance_txt (p := false) ?_
    repeat (walk_at "pl e")
    rw [show ((o == false) == o) = false by cases o <;> rfl]
    refine ite_f (by decide) ?_
    repeat (walk_at "pl e")
    refine ite_f (by decide) ?_
    refine TSs.nil ?_
    refine TSs.cons ?_
    refine TS.assign (by walk_at "pl st") ?_
    refine TE.cut (P := fun v σ' => v = .txt false (normS p) ∧ σ' = ⟨[("told", .txt o (normS p)), ("path", .txt false p), ("octets", .bool o), ("above", .ref aA), ("below", .ref aB), ("forms", .ref aFo), ("places", .ref aPl)], H0⟩) ?_ ?_
    · repeat (walk_at "pl e")
      cases o
      · refine ite_f (by decide) ?_
        repeat (walk_at "pl e")
        exact ⟨rfl, rfl⟩
      · refine ite_t rfl ?_
        refine TE.joinS ?_
        repeat (walk_at "pl e")
        refine TE.listcompF hC (by walk_at "pl comp") ?_
        repeat (walk_at "pl e")
        refine ⟨Nat, normS p, fun c : Nat => V.int (c : Int), fun c => some (.txt false [c]), [], H0, _, Walk.bytes, fun _ _ => trivial, List.Sublist.refl _, by walk_at "pl lf", by omega, ?_, ?_⟩
        · intro C' hC' c hc
          refine TAs.name (hC'.stL (by kernel_rfl)) ?_
          refine TIfs.nil ?_
          refine ite_t rfl ?_
          repeat (walk_at "pl e")
          have := hnc c hc
          refine call_chr (by omega) (by omega) ?_
          exact ⟨rfl, by walk_at "pl lo", List.Sublist.refl _⟩
        rw [filterMap_some]
        repeat (walk_at "pl e")
        refine ⟨_, (normS p).map fun c => [c], rfl, ?_, ?_, ?_⟩
        · rw [List.map_map]; exact .fz _
        · rw [sum_ones, List.length_map]; simp; omega
        rw [joinS_nil]
        exact ⟨rfl, rfl⟩
    rintro _ _ ⟨rfl, rfl⟩
    subst hH
    refine TSs.cons ?_
    refine TS.assign (by walk_at "pl st") ?_
    refine TE.callG hC fs.f15 (by kernel_rfl) (by kernel_rfl) ?_
    repeat (walk_at "pl e")
    refine CallV.fnI hC (place_ok (K := [(aPl, .dictS pl), (aFo, .dictI fo)]) fs.f15 hb T (by omega) hgp ?_) (by decide)
    intro ab' be' lb' j T' hpre hab' hj
    have hnorm := norm_text p
    generalize hnp : normS p = np at hnl hnc hni hne
    generalize rootN p = r at hne hnorm hj
    generalize normC r (splitS 47 p) = cs at hne hnorm hj
    have hfo' := hfo.pre hpre
    have hpl' := hpl.pre hpre
    have hjl : j < ab'.length := by rw [← T'.len]; exact (List.getElem?_eq_some_iff.mp hj).1
    generalize hfin : ([(aPl, AO.dictS pl), (aFo, AO.dictI fo)] ++ [(aB, AO.dictS be'), (aA, AO.list (ab'.map fun n : Nat => V.int (n : Int)))] : Led) = H1
    have mF : (aFo, AO.dictI fo) ∈ H1 := by rw [← hfin]; simp
    have mP : (aPl, AO.dictS pl) ∈ H1 := by rw [← hfin]; simp
    refine TSs.le (σ' := ⟨[("form", .txt false np), ("path", .txt false p), ("octets", .bool o), ("above", .ref aA), ("below", .ref aB), ("forms", .ref aFo), ("places", .ref aPl), ("place", .int (j : Int))], H1⟩) ⟨by walk_at "pl lo", List.Sublist.refl _⟩ ?_
    refine TSs.cons ?_
    repeat (walk_at "pl e")
    refine TE.dget (K := Int) ?_
    repeat (walk_at "pl e")
    refine ⟨aFo, fo, _, rfl, DL.int mF, ?_⟩
    repeat (walk_at "pl e")
    refine ⟨_, _, (j : Int), rfl, DL.int mF, KeyV.int, ?_⟩
    rw [hne, hfo'.get hj]
    repeat (walk_at "pl e")
    refine ite_f (by simp) ?_
    repeat (walk_at "pl e")
    refine TE.dget (K := Str) ?_
    repeat (walk_at "pl e")
    refine ⟨aPl, pl, _, rfl, DL.str mP, ?_⟩
    repeat (walk_at "pl e")
    refine ⟨_, _, strOf (outS r cs), rfl, DL.str mP, KeyV.str, ?_⟩
    rw [hpl'.get T' hj hnorm]
    repeat (walk_at "pl e")
    refine ite_f (by simp) ?_
    repeat (walk_at "pl e")
    refine ite_f (by decide) ?_
    refine TSs.nil ?_
    refine TSs.cons ?_
    refine TS.assignSub ?_
    repeat (walk_at "pl e")
    subst hfin
    refine Put.dictI (.tail .head) (by omega) ?_
    refine TSs.cons ?_
    refine TS.assignSub ?_
    repeat (walk_at "pl e")
    refine Put.dictS (.head) (by omega) ?_
    refine TSs.cons ?_
    repeat (walk_at "pl e")
    refine TE.callG hC fs.f16 (by kernel_rfl) (by kernel_rfl) ?_
    repeat (walk_at "pl e")
    refine CallV.fnI hC (taken_ok fs.f16 hb ?_) (by decide)
    rw [← hne, hni]
    repeat (walk_at "pl e")
    refine ite_f (by simp) ?_
    repeat (walk_at "pl e")
    refine TE.callG hC fs.f16 (by kernel_rfl) (by kernel_rfl) ?_
    repeat (walk_at "pl e")
    refine CallV.fnI hC (taken_ok fs.f16 hb ?_) (by decide)
    rw [hnp]
    repeat (walk_at "pl e")
    refine ite_f (by simp) ?_
    repeat (walk_at "pl e")
    refine ite_f (by decide) ?_
    refine TSs.nil ?_
    refine TSs.nil ?_
    have l1 := vPut_length fo (j : Int) (.txt false (outS r cs))
    have l2 := vPut_length pl (strOf (outS r cs)) (.int (j : Int))
    rw [hne]
    exact ⟨ab', be', lb', vPut fo (j : Int) (.txt false (outS r cs)), vPut pl (strOf (outS r cs)) (.int (j : Int)), T', by omega, by omega, hfo'.put List.prefix_rfl hj, hpl'.put hj hnorm, by omega, by omega, by walk_at "pl lo", List.Sublist.refl _⟩
  · rintro σ ⟨ab, be, lb, fo, pl, T, hi15, habl, hfo, hpl, hfol, hpll, hle⟩
    refine TSs.nil ?_
    refine TSs.le hle ?_
    repeat (walk_at "pl e")
    rfl
end PL

end
open PySem PyProof.Rows
set_option Elab.async false
namespace PL
open PySem.Calls
theorem plain_9 : Plain (recAt P4 9) := by constructor <;> decide +kernel
theorem bind_9 : ∀ (pm code doc : Value) (xs : List Value), xs.length = (parsAt P4 9).length → bindArgs (docDef (recAt P4 9).name (recAt P4 9).params (recAt P4 9).body (recAt P4 9).scope pm code doc) ⟨xs, []⟩ = pure ((parsAt P4 9).zip xs) := by
  intro pm code doc xs h
  have e : (parsAt P4 9).length = 1 := by kernel_rfl
  rw [e] at h
  obtain ⟨x, rfl⟩ := List.length_eq_one_iff.mp h
  kernel_rfl
theorem plain_11 : Plain (recAt P4 11) := by constructor <;> decide +kernel
theorem bind_11 : ∀ (pm code doc : Value) (xs : List Value), xs.length = (parsAt P4 11).length → bindArgs (docDef (recAt P4 11).name (recAt P4 11).params (recAt P4 11).body (recAt P4 11).scope pm code doc) ⟨xs, []⟩ = pure ((parsAt P4 11).zip xs) := by
  intro pm code doc xs h
  have e : (parsAt P4 11).length = 1 := by kernel_rfl
  rw [e] at h
  obtain ⟨x, rfl⟩ := List.length_eq_one_iff.mp h
  kernel_rfl
theorem plain_12 : Plain (recAt P4 12) := by constructor <;> decide +kernel
theorem bind_12 : ∀ (pm code doc : Value) (xs : List Value), xs.length = (parsAt P4 12).length → bindArgs (docDef (recAt P4 12).name (recAt P4 12).params (recAt P4 12).body (recAt P4 12).scope pm code doc) ⟨xs, []⟩ = pure ((parsAt P4 12).zip xs) := by
  intro pm code doc xs h
  have e : (parsAt P4 12).length = 1 := by kernel_rfl
  rw [e] at h
  obtain ⟨x, rfl⟩ := List.length_eq_one_iff.mp h
  kernel_rfl
theorem plain_14 : Plain (recAt P4 14) := by constructor <;> decide +kernel
theorem bind_14 : ∀ (pm code doc : Value) (xs : List Value), xs.length = (parsAt P4 14).length → bindArgs (docDef (recAt P4 14).name (recAt P4 14).params (recAt P4 14).body (recAt P4 14).scope pm code doc) ⟨xs, []⟩ = pure ((parsAt P4 14).zip xs) := by
  intro pm code doc xs h
  have e : (parsAt P4 14).length = 1 := by kernel_rfl
  rw [e] at h
  obtain ⟨x, rfl⟩ := List.length_eq_one_iff.mp h
  kernel_rfl
theorem plain_15 : Plain (recAt P4 15) := by constructor <;> decide +kernel
theorem bind_15 : ∀ (pm code doc : Value) (xs : List Value), xs.length = (parsAt P4 15).length → bindArgs (docDef (recAt P4 15).name (recAt P4 15).params (recAt P4 15).body (recAt P4 15).scope pm code doc) ⟨xs, []⟩ = pure ((parsAt P4 15).zip xs) := by
  intro pm code doc xs h
  have e : (parsAt P4 15).length = 3 := by kernel_rfl
  rw [e] at h
  match xs, h with
  | [x, y, z], _ => kernel_rfl
theorem plain_16 : Plain (recAt P4 16) := by constructor <;> decide +kernel
theorem bind_16 : ∀ (pm code doc : Value) (xs : List Value), xs.length = (parsAt P4 16).length → bindArgs (docDef (recAt P4 16).name (recAt P4 16).params (recAt P4 16).body (recAt P4 16).scope pm code doc) ⟨xs, []⟩ = pure ((parsAt P4 16).zip xs) := by
  intro pm code doc xs h
  have e : (parsAt P4 16).length = 1 := by kernel_rfl
  rw [e] at h
  obtain ⟨x, rfl⟩ := List.length_eq_one_iff.mp h
  kernel_rfl
theorem plain_17 : Plain (recAt P4 17) := by constructor <;> decide +kernel
theorem bind_17 : ∀ (pm code doc : Value) (xs : List Value), xs.length = (parsAt P4 17).length → bindArgs (docDef (recAt P4 17).name (recAt P4 17).params (recAt P4 17).body (recAt P4 17).scope pm code doc) ⟨xs, []⟩ = pure ((parsAt P4 17).zip xs) := by
  intro pm code doc xs h
  have e : (parsAt P4 17).length = 1 := by kernel_rfl
  rw [e] at h
  obtain ⟨x, rfl⟩ := List.length_eq_one_iff.mp h
  kernel_rfl
end PL
namespace PL.hq
theorem tw10322038092850174362 : True := trivial
theorem tw10578125417638283357 : True := trivial
theorem tw10881528782123092746 : True := trivial
theorem tw10940537674685882115 : True := trivial
theorem tw10994886041549457264 : True := trivial
theorem tw11000781819815587137 : True := trivial
theorem tw11195717029766657026 : True := trivial
theorem tw11244646774664661130 : True := trivial
theorem tw116285552138952347 : True := trivial
theorem tw11643923109651329364 : True := trivial
theorem tw11908810259791006522 : True := trivial
theorem tw12005465353942320143 : True := trivial
theorem tw12056519460832690200 : True := trivial
theorem tw12208854670899752122 : True := trivial
theorem tw12523848078997984307 : True := trivial
theorem tw12572362154380331464 : True := trivial
theorem tw12709492719501962588 : True := trivial
theorem tw12772275578942101874 : True := trivial
theorem tw12813963863009017322 : True := trivial
theorem tw13070879886649983486 : True := trivial
theorem tw13136604745536518912 : True := trivial
theorem tw13154545043853268745 : True := trivial
theorem tw13235798161960342647 : True := trivial
theorem tw13426379033378961899 : True := trivial
theorem tw13443096486218418413 : True := trivial
theorem tw13493806150206681168 : True := trivial
theorem tw13549075360943805026 : True := trivial
theorem tw13558430621644728276 : True := trivial
theorem tw13612596976413304410 : True := trivial
theorem tw13811128549203767365 : True := trivial
theorem tw13902122135257893102 : True := trivial
theorem tw14050127396031851777 : True := trivial
theorem tw14059725829030920339 : True := trivial
theorem tw14341625433146122062 : True := trivial
theorem tw14404082607544834272 : True := trivial
theorem tw14782969899475878510 : True := trivial
theorem tw15311886777180498106 : True := trivial
theorem tw15554228631916190306 : True := trivial
theorem tw16019180303352569947 : True := trivial
theorem tw16318831607075985739 : True := trivial
theorem tw16392860424041057560 : True := trivial
theorem tw16439145762317160429 : True := trivial
theorem tw16449596961266493311 : True := trivial
theorem tw16492304627052442508 : True := trivial
theorem tw1666759469870611197 : True := trivial
theorem tw16954096959209456542 : True := trivial
theorem tw17292527579582217065 : True := trivial
theorem tw17317051885394222045 : True := trivial
theorem tw17385372484413650039 : True := trivial
theorem tw17666827210103790498 : True := trivial
theorem tw17681340721260394308 : True := trivial
theorem tw17730446826199742524 : True := trivial
theorem tw17951599353509457776 : True := trivial
theorem tw18101516308723118010 : True := trivial
theorem tw18121447135383459017 : True := trivial
theorem tw18137857242630556044 : True := trivial
theorem tw18208495566871879999 : True := trivial
theorem tw18376927660453186172 : True := trivial
theorem tw1962460341854704622 : True := trivial
theorem tw2174984794223843757 : True := trivial
theorem tw2176592581420044181 : True := trivial
theorem tw2239135016466521070 : True := trivial
theorem tw2454452068462306114 : True := trivial
theorem tw2957082609756199863 : True := trivial
theorem tw3366810366122488297 : True := trivial
theorem tw3597111892374550796 : True := trivial
theorem tw3630418350923066436 : True := trivial
theorem tw3703575223003040081 : True := trivial
theorem tw3900358186380219256 : True := trivial
theorem tw3970925970340267299 : True := trivial
theorem tw4131030150531144260 : True := trivial
theorem tw4370512022440838523 : True := trivial
theorem tw4576643854983958864 : True := trivial
theorem tw4599710900037758195 : True := trivial
theorem tw465576554500978497 : True := trivial
theorem tw4710047391621955908 : True := trivial
theorem tw4712760515855164311 : True := trivial
theorem tw4931211677879945270 : True := trivial
theorem tw519397268255633034 : True := trivial
theorem tw5346338207255859092 : True := trivial
theorem tw5564211256190892648 : True := trivial
theorem tw5609975511397640031 : True := trivial
theorem tw5724091033786990644 : True := trivial
theorem tw6038042970738412993 : True := trivial
theorem tw6076127018879716000 : True := trivial
theorem tw6278770649022532997 : True := trivial
theorem tw6359601116336817604 : True := trivial
theorem tw6400979593350638597 : True := trivial
theorem tw6426164013878419807 : True := trivial
theorem tw6594513770607075951 : True := trivial
theorem tw6707203532000522902 : True := trivial
theorem tw6729652084136464301 : True := trivial
theorem tw6795441023340180416 : True := trivial
theorem tw6809095355669430329 : True := trivial
theorem tw6856929370144019910 : True := trivial
theorem tw6891327794774082122 : True := trivial
theorem tw689996689215004385 : True := trivial
theorem tw6905322244355667980 : True := trivial
theorem tw7077519796673306802 : True := trivial
theorem tw7172115502284585795 : True := trivial
theorem tw7353386008980756413 : True := trivial
theorem tw7510321012393329538 : True := trivial
theorem tw7516807648445859729 : True := trivial
theorem tw759594803087790493 : True := trivial
theorem tw809245011415832620 : True := trivial
theorem tw8244119267253919938 : True := trivial
theorem tw8387202391173974111 : True := trivial
theorem tw845083569337076454 : True := trivial
theorem tw8618902379862786811 : True := trivial
theorem tw8653994038256421392 : True := trivial
theorem tw898866642159142188 : True := trivial
theorem tw8997635952957059331 : True := trivial
theorem tw9043558548103874264 : True := trivial
theorem tw9096826120843099818 : True := trivial
theorem tw9192657973262574756 : True := trivial
theorem tw9262597400919477278 : True := trivial
theorem tw9523118495404018300 : True := trivial
theorem tw9529226258195214505 : True := trivial
theorem tw9612898263177967027 : True := trivial
theorem tw9671905789914693418 : True := trivial
theorem tw9781565010282851077 : True := trivial
theorem tw9794123146945694145 : True := trivial
theorem tw9866279775617001207 : True := trivial
theorem tw9925263663166883926 : True := trivial
end PL.hq
open PySem.W
set_option Elab.async true in
set_option maxRecDepth 100000 in
set_option maxHeartbeats 8000000 in
theorem PL.hq : PySem.Challenge.rw_km0084_04.Holds := by
  w_on; o_law; o_head Hook.none; (case hw => w_witness2)
  w_strict (
    k_fill
    intro w s₀ s₁ mg mb G Y fa o pm cd doc dV kV ho hd hcd hD hmg hg args vals as hpre hlay hrd hwl hlo
    refine Ground.open G ?_
    intro T B D TE TW
    try (refine guard_noD D (by decide +kernel) ?_; clear D)
    have hlawname := hmg
    try (obtain ⟨_, _, he, B0⟩ := based_of_top T rfl hmg ho hd; have he' : cd = _ := he; subst he'; clear he)
    wrow_args hpre hlay hrd hwl hlo
    all_goals (
      first | refine callC_kw (enter_call ?_) | refine enter_call ?_ | refine callC_kw (enter_callW ?_) | refine enter_callW ?_ | w_how
      w_top on
      try refine codeAny_mono ?_ (fun _ _ g => GoodW.toG g)
      have hfree : PL.Free (PL.gdOf PySem.Challenge.rw_km0084_04.row.prog w s₁ T) PL.BI := PL.free_of T (by decide +kernel)
      obtain ⟨a9, h9⟩ := PL.fn_of (g := PL.gdOf PySem.Challenge.rw_km0084_04.row.prog w s₁ T) PL.plain_9 PL.bind_9 (T.fn (PL.recAt PL.P4 9) (List.mem_of_getElem? (i := 3) (by kernel_rfl)))
      obtain ⟨a11, h11⟩ := PL.fn_of (g := PL.gdOf PySem.Challenge.rw_km0084_04.row.prog w s₁ T) PL.plain_11 PL.bind_11 (T.fn (PL.recAt PL.P4 11) (List.mem_of_getElem? (i := 4) (by kernel_rfl)))
      obtain ⟨a12, h12⟩ := PL.fn_of (g := PL.gdOf PySem.Challenge.rw_km0084_04.row.prog w s₁ T) PL.plain_12 PL.bind_12 (T.fn (PL.recAt PL.P4 12) (List.mem_of_getElem? (i := 5) (by kernel_rfl)))
      obtain ⟨a14, h14⟩ := PL.fn_of (g := PL.gdOf PySem.Challenge.rw_km0084_04.row.prog w s₁ T) PL.plain_14 PL.bind_14 (T.fn (PL.recAt PL.P4 14) (List.mem_of_getElem? (i := 6) (by kernel_rfl)))
      obtain ⟨a15, h15⟩ := PL.fn_of (g := PL.gdOf PySem.Challenge.rw_km0084_04.row.prog w s₁ T) PL.plain_15 PL.bind_15 (T.fn (PL.recAt PL.P4 15) (List.mem_of_getElem? (i := 7) (by kernel_rfl)))
      obtain ⟨a16, h16⟩ := PL.fn_of (g := PL.gdOf PySem.Challenge.rw_km0084_04.row.prog w s₁ T) PL.plain_16 PL.bind_16 (T.fn (PL.recAt PL.P4 16) (List.mem_of_getElem? (i := 8) (by kernel_rfl)))
      obtain ⟨a17, h17⟩ := PL.fn_of (g := PL.gdOf PySem.Challenge.rw_km0084_04.row.prog w s₁ T) PL.plain_17 PL.bind_17 (T.fn (PL.recAt PL.P4 17) (List.mem_of_getElem? (i := 9) (by kernel_rfl)))
      have hfa : a17 = fa := by
        have e1 := h17.1
        have e2 := hlawname
        have e3 : some (Value.ref a17) = some (Value.ref fa) := e1.symm.trans e2
        cases e3; rfl
      subst hfa
      rename_i hlen63 _
      refine PL.finish T hg (by assumption) ?_ (raisesW_false ?_) ?_
      · refine PL.law4_ok h17 ⟨hfree, h9, h11, h12, h14, h15, h16⟩ ?_
        omega
      · wrow_none_raised
      · wrow_post))
theorem PySem.Challenge.cw_km0084_04_holds : PySem.Challenge.rw_km0084_04.Holds := by
  exact PL.hq


