import PyProof.Rows.All
import PyProof.RaisesAny
import PyProof.RulesRaise
import PyProof.ExcFactsAll.TypeError
import PyProof.ExcFactsAll.ValueError
import PyProof.IsiPairs
import PyProof.IsiTupleAll
import PyProof.ListMulAny
import PyProof.Rows.EqDataRows
import PyProof.TupleOfSeq
import PyProof.SetRoads
import Wide.Ends
import Wide.All
import OpenK.AllK
import Wide.FinOn
import PySem.Challenge.RW_km0084_12
set_option compiler.extract_closed false
set_option genSizeOf false
section
open PySem PySem.Calls PyProof.Rows
set_option Elab.async false
set_option linter.unusedVariables false
namespace PL

/-! abstract values -/
inductive V where
  | none
  | bool (b : Bool)
  | int (i : Int)
  | txt (o : Bool) (l : List Nat)
  | tup (vs : List V)
  | lst (vs : List V)
  | ref (a : Addr)
  | con (v : Value)
  | rng (a b c : Int)
  | opq (T : String)

noncomputable abbrev Z := Addr → Option Obj
noncomputable def Z.le (z z' : Z) : Prop := ∀ b o, z b = some o → z' b = some o
theorem Z.le_refl (z : Z) : Z.le z z := fun _ _ h => h
theorem Z.le_trans {a b c : Z} (h : Z.le a b) (k : Z.le b c) : Z.le a c := fun x o e => k x o (h x o e)
noncomputable def Z.put (z : Z) (a : Addr) (o : Obj) : Z := fun b => if b = a then some o else z b

noncomputable abbrev tupO (items : List Value) (n : Nat) : Obj := { cls := .type "tuple", data := .seq items.toArray n }
noncomputable abbrev lstO (items : List Value) (n : Nat) : Obj := { cls := .type "list", data := .seq items.toArray n }

mutual
inductive Rep (z : Z) : V → Value → Prop
  | none : Rep z .none .none
  | bool (b : Bool) : Rep z (.bool b) (.bool b)
  | int (i : Int) (t : Tok) : Rep z (.int i) (.int i t)
  | str (l : List Nat) (t : Tok) : Rep z (.txt false l) (.str ⟨l.toArray⟩ t)
  | bytes (l : List Nat) (t : Tok) (h : ∀ c ∈ l, c < 256) : Rep z (.txt true l) (.bytes (l.map UInt8.ofNat).toArray t)
  | tup {vs : List V} {a : Addr} {items : List Value} {n : Nat} (h : z a = some (tupO items n)) (hr : RepL z vs items) : Rep z (.tup vs) (.ref a)
  | lst {vs : List V} {a : Addr} {items : List Value} {n : Nat} (h : z a = some (lstO items n)) (hr : RepL z vs items) : Rep z (.lst vs) (.ref a)
  | ref (a : Addr) : Rep z (.ref a) (.ref a)
  | con (v : Value) : Rep z (.con v) v
  | rng {x y w : Int} {a : Addr} {t u v : Tok} (h : z a = some { cls := .type "range", dict := none, data := .fields #[.int x t, .int y u, .int w v], slots := #[] }) : Rep z (.rng x y w) (.ref a)
  | opq {T : String} {a : Addr} {o : Obj} (h : z a = some o) (hc : o.cls = .type T) : Rep z (.opq T) (.ref a)
inductive RepL (z : Z) : List V → List Value → Prop
  | nil : RepL z [] []
  | cons {v : V} {x : Value} {vs : List V} {xs : List Value} (h : Rep z v x) (t : RepL z vs xs) : RepL z (v :: vs) (x :: xs)
end

theorem Rep.mono {z z' : Z} (h : Z.le z z') {v : V} {x : Value} (r : Rep z v x) : Rep z' v x :=
  Rep.rec (motive_1 := fun v x _ => Rep z' v x) (motive_2 := fun v x _ => RepL z' v x) .none .bool .int .str .bytes (fun e _ ih => .tup (h _ _ e) ih) (fun e _ ih => .lst (h _ _ e) ih) .ref .con (fun e => .rng (h _ _ e)) (fun e hc => .opq (h _ _ e) hc) .nil (fun _ _ a b => .cons a b) r
theorem RepL.ind {z : Z} {P : List V → List Value → Prop} (nil : P [] []) (cons : ∀ {v : V} {x : Value} {vs : List V} {xs : List Value}, Rep z v x → RepL z vs xs → P vs xs → P (v :: vs) (x :: xs)) {vs : List V} {xs : List Value} (r : RepL z vs xs) : P vs xs :=
  RepL.rec (motive_1 := fun _ _ _ => True) (motive_2 := fun v x _ => P v x) trivial (fun _ => trivial) (fun _ _ => trivial) (fun _ _ => trivial) (fun _ _ _ => trivial) (fun _ _ _ => trivial) (fun _ _ _ => trivial) (fun _ => trivial) (fun _ => trivial) (fun _ => trivial) (fun _ _ => trivial) nil (fun a b _ ih => cons a b ih) r
theorem RepL.mono {z z' : Z} (h : Z.le z z') {v : List V} {x : List Value} (r : RepL z v x) : RepL z' v x :=
  r.ind (P := RepL z') .nil fun a _ ih => .cons (a.mono h) ih
theorem RepL.inv {z : Z} {v : V} {vs : List V} {ys : List Value} (r : RepL z (v :: vs) ys) : ∃ x xs, ys = x :: xs ∧ Rep z v x ∧ RepL z vs xs := by
  cases r with | cons a t => exact ⟨_, _, rfl, a, t⟩
theorem RepL.inv0 {z : Z} {ys : List Value} (r : RepL z [] ys) : ys = [] := by cases r; rfl

/-- what a value looks like -/
noncomputable def RepE (z : Z) : V → Value → Prop
  | .none, x => ∃ _ : Tok, x = .none
  | .bool b, x => ∃ _ : Tok, x = .bool b
  | .int i, x => ∃ t, x = .int i t
  | .txt false l, x => ∃ t, x = .str ⟨l.toArray⟩ t
  | .txt true l, x => ∃ t, x = .bytes (l.map UInt8.ofNat).toArray t ∧ ∀ c ∈ l, c < 256
  | .tup vs, x => ∃ a items n, x = .ref a ∧ z a = some (tupO items n) ∧ RepL z vs items
  | .lst vs, x => ∃ a items n, x = .ref a ∧ z a = some (lstO items n) ∧ RepL z vs items
  | .ref a, x => ∃ _ : Tok, x = .ref a
  | .con v, x => ∃ _ : Tok, x = v
  | .rng i j k, x => ∃ a t u v, x = .ref a ∧ z a = some { cls := .type "range", dict := none, data := .fields #[.int i t, .int j u, .int k v], slots := #[] }
  | .opq T, x => ∃ a o, x = .ref a ∧ z a = some o ∧ o.cls = .type T
theorem Rep.e {z : Z} {v : V} {x : Value} (r : Rep z v x) : RepE z v x :=
  Rep.rec (motive_1 := fun v x _ => RepE z v x) (motive_2 := fun _ _ _ => True) ⟨0, rfl⟩ (fun _ => ⟨0, rfl⟩) (fun _ t => ⟨t, rfl⟩) (fun _ t => ⟨t, rfl⟩) (fun _ t h => ⟨t, rfl, h⟩) (fun h hr _ => ⟨_, _, _, rfl, h, hr⟩) (fun h hr _ => ⟨_, _, _, rfl, h, hr⟩) (fun _ => ⟨0, rfl⟩) (fun _ => ⟨0, rfl⟩) (fun h => ⟨_, _, _, _, rfl, h⟩) (fun h hc => ⟨_, _, rfl, h, hc⟩) trivial (fun _ _ _ _ => trivial) r
theorem Rep.txt_ {z : Z} {o : Bool} {l : List Nat} {x : Value} (r : Rep z (.txt o l) x) : (o = false ∧ ∃ t, x = .str ⟨l.toArray⟩ t) ∨ (o = true ∧ ∃ t, x = .bytes (l.map UInt8.ofNat).toArray t ∧ ∀ c ∈ l, c < 256) := by
  cases o with
  | false => exact .inl ⟨rfl, r.e⟩
  | true => exact .inr ⟨rfl, r.e⟩
theorem RepL.length {z : Z} {vs : List V} {xs : List Value} (r : RepL z vs xs) : xs.length = vs.length :=
  r.ind (P := fun vs xs => xs.length = vs.length) rfl fun _ _ ih => congrArg (· + 1) ih
theorem RepL.append {z : Z} {vs vs' : List V} {xs xs' : List Value} (r : RepL z vs xs) (h : RepL z vs' xs') : RepL z (vs ++ vs') (xs ++ xs') :=
  r.ind (P := fun vs xs => RepL z (vs ++ vs') (xs ++ xs')) h fun a _ ih => .cons a ih
theorem RepL.get {z : Z} {vs : List V} {xs : List Value} (r : RepL z vs xs) : ∀ {i : Nat} {v : V}, vs[i]? = some v → ∃ x, xs[i]? = some x ∧ Rep z v x :=
  r.ind (P := fun vs xs => ∀ {i : Nat} {v : V}, vs[i]? = some v → ∃ x, xs[i]? = some x ∧ Rep z v x) (fun h => nomatch h) fun {_ x _ _} a _ ih {i v} h => by
    cases i with
    | zero => have e := Option.some.inj h; exact ⟨x, rfl, e ▸ a⟩
    | succ i => exact ih h

inductive RepP {K : Type} (z : Z) : List (K × V) → List (K × Value) → Prop
  | nil : RepP z [] []
  | cons {k : K} {v : V} {x : Value} {l : List (K × V)} {m : List (K × Value)} (h : Rep z v x) (t : RepP z l m) : RepP z ((k, v) :: l) ((k, x) :: m)
theorem RepP.mono {K : Type} {z z' : Z} (h : Z.le z z') {l : List (K × V)} {m : List (K × Value)} (r : RepP z l m) : RepP z' l m := by
  induction r with
  | nil => exact .nil
  | cons a _ ih => exact .cons (a.mono h) ih

/-! the live objects of the ledger -/
inductive AO where
  | list (vs : List V)
  | dictS (kvs : List (Str × V))
  | dictI (kvs : List (Int × V))
  | raw (o : Obj)

structure Gd where
  prog : Program
  w : World
  base : Heap
  os : OsState
  mg : Str → Option Value
  mb : Str → Option Value
  hmg : base.Ns mainGlobals mg
  hmb : base.Ns builtinsNs mb
  lim : base.NoLimit
  hbi : ∀ x : Str, x ≠ "__name__" → mb x = bootBuiltins x

noncomputable def strOf (l : List Nat) : Str := ⟨l.toArray⟩

noncomputable def AOK (g : Gd) (z : Z) (h : Heap) (a : Addr) : AO → Prop
  | .list vs => ∃ items n, h.get? a = some (lstO items n) ∧ RepL z vs items
  | .dictS kvs => ∃ ys, h.DictOf (strKind g.prog g.w) a ys ∧ RepP z kvs ys ∧ (a == sysModules) = false
  | .dictI kvs => ∃ ys, h.DictOf (intKind g.prog g.w) a ys ∧ RepP z kvs ys ∧ (a == sysModules) = false
  | .raw o => h.get? a = some o

theorem AOK.mono {g : Gd} {z z' : Z} {h : Heap} {a : Addr} (hz : Z.le z z') {o : AO} (k : AOK g z h a o) : AOK g z' h a o := by
  cases o with
  | list _ => obtain ⟨i, n, x, r⟩ := k; exact ⟨i, n, x, r.mono hz⟩
  | dictS _ => obtain ⟨i, x, r, m⟩ := k; exact ⟨i, x, r.mono hz, m⟩
  | dictI _ => obtain ⟨i, x, r, m⟩ := k; exact ⟨i, x, r.mono hz, m⟩
  | raw _ => exact k
theorem AOK.keep {g : Gd} {z : Z} {h h' : Heap} {a : Addr} (e : ∀ o, h.get? a = some o → h'.get? a = some o) {o : AO} (k : AOK g z h a o) : AOK g z h' a o := by
  cases o with
  | list _ => obtain ⟨i, n, x, r⟩ := k; exact ⟨i, n, e _ x, r⟩
  | dictS _ => obtain ⟨i, ⟨o, es, ep, ho, q⟩, r⟩ := k; exact ⟨i, ⟨o, es, ep, e o ho, q⟩, r⟩
  | dictI _ => obtain ⟨i, ⟨o, es, ep, ho, q⟩, r⟩ := k; exact ⟨i, ⟨o, es, ep, e o ho, q⟩, r⟩
  | raw o => exact e o k

noncomputable abbrev Led := List (Addr × AO)
structure St where
  loc : List (Str × V)
  H : Led

/-- the heap's part of the relation -/
structure RH (g : Gd) (zs : Z) (H : Led) (z : Z) (s : Shared) : Prop where
  hz : ∀ b o, z b = some o → s.heap.get? b = some o
  hbase : ∀ b o, g.base.get? b = some o → z b = some o
  hzs : ∀ b o, zs b = some o → ∃ sl, s.heap.get? b = some { o with slots := sl } ∧ ((∀ vs ep, o.data ≠ .dict vs ep) → sl = o.slots)
  disj : ∀ b o, zs b = some o → z b = none
  hH : ∀ p ∈ H, AOK g z s.heap p.1 p.2 ∧ z p.1 = none ∧ zs p.1 = none
  nodup : (H.map (·.1)).Nodup
  gens : s.gens = #[]
  os : s.os = g.os

structure Cx where
  g : Gd
  A : Around
  env : Env
  outer : List Env
  n : Nat
  ro : List Str := []
  hk : env.scope.kind = .function
  hglob : env.globals = mainGlobals
  hbuilt : env.builtins = builtinsNs
  hdep : A.depth + n ≤ 900
  hunits : A.units + 20 * n ≤ 9000
  hframes : (A.frames = some (env :: outer) ∧ env.frame = some env.locals) ∨ A.frames = some outer
  apart : env.cells.Pairwise fun x y => x.2 ≠ y.2

noncomputable abbrev Cx.M (C : Cx) : Model := model C.g.prog C.g.w

noncomputable def cellish : Option NameKind → Bool
  | some .cell => true
  | some .free => true
  | _ => false

structure FrOK (outer : List Env) (zs : Z) : Prop where
  ok : ∀ e ∈ outer, e.scope.kind ≠ .module ∧ ∃ L o, e.frame = some L ∧ zs L = some o ∧ ∃ es ep, o.data = .dict es ep

structure R (C : Cx) (zs : Z) (σ : St) (z : Z) (s : Shared) : Prop where
  rh : RH C.g zs σ.H z s
  ns : ∃ m, s.heap.Ns C.env.locals m ∧ ∀ x v, σ.loc.lookup x = some v → C.env.kindOf x = some .local → ∃ val, m x = some val ∧ Rep z v val
  cells : ∀ x v, σ.loc.lookup x = some v → cellish (C.env.kindOf x) = true → ∃ c val, C.env.cells.lookup x = some c ∧ s.heap.IsCell c (some val) ∧ Rep z v val
  cellsOk : ∀ p ∈ C.env.cells, (∃ ov, s.heap.IsCell p.2 ov) ∧ z p.2 = none ∧ (zs p.2 = none ∨ p.1 ∈ C.ro) ∧ p.2 ≠ C.env.locals ∧ p.2 ∉ σ.H.map (·.1)
  locFree : z C.env.locals = none ∧ zs C.env.locals = none ∧ C.env.locals ∉ σ.H.map (·.1)
  fr : FrOK C.outer zs

noncomputable abbrev XP := String → St → Prop

/-- an exception in flight: made here, traced, or traced and at this frame -/
noncomputable def MadeIn (h : Heap) (a : Addr) (cls : String) : Prop := ∃ oe vs a0, h.get? a = some oe ∧ oe.cls = .type cls ∧ oe.data = .fields vs ∧ vs[1]? = some .none ∧ vs[0]? = some a0 ∧ vs[2]? = some .none
noncomputable def Track (h B : Heap) (fr : List Env) (a : Addr) (cls : String) : Prop :=
  MadeIn h a cls ∨ (∃ a0, h.TracedW B a (.type cls) a0) ∨ ∃ env rest L a0, fr = env :: rest ∧ env.frame = some L ∧ h.TracedAtW B a (.type cls) a0 (rawInt L)
structure FlyB (g : Gd) (zs : Z) (H : Led) (z : Z) (fr : List Env) (s : Shared) (a : Addr) (cls : String) (B : Heap) : Prop where
  stays : B.StaysIn s.heap
  new : B.get? a = none
  frames : s.heap.FunFrames B fr
  hz : ∀ b o, z b = some o → B.get? b = some o
  led : ∀ p ∈ H, AOK g z B p.1 p.2
  hid : ∀ b o, zs b = some o → (∀ vs ep, o.data ≠ .dict vs ep) → B.get? b = some o
  track : Track s.heap B fr a cls
noncomputable def Fly (g : Gd) (zs : Z) (H : Led) (z : Z) (fr : List Env) (s : Shared) (e : Value) (cls : String) : Prop := ∃ a B, e = .ref a ∧ FlyB g zs H z fr s a cls B

inductive PX (C : Cx) (zs z : Z) (X : XP) (e : Value) (s' : Shared) : Prop
  | mk (z' : Z) (σ' : St) (cls : String) (fr : List Env) (le : Z.le z z') (r : R C zs σ' z' s') (q : C.A.frames = some fr) (f : Fly C.g zs σ'.H z' fr s' e cls) (x : X cls σ')
theorem PX.le {C : Cx} {zs z z1 : Z} {X : XP} {e : Value} {s : Shared} (h : Z.le z z1) (k : PX C zs z1 X e s) : PX C zs z X e s := by
  cases k with | mk z' σ' cls fr l r q f x => exact ⟨z', σ', cls, fr, Z.le_trans h l, r, q, f, x⟩
noncomputable abbrev X0 : XP := fun _ _ => False
theorem PX.absurd {C : Cx} {zs z : Z} {e : Value} {s : Shared} (h : PX C zs z X0 e s) {P : Prop} : P := by
  cases h with | mk z' σ' cls fr l r q f x => exact x.elim

inductive Post {α : Type} (C : Cx) (zs z : Z) (P : Z → α → St → Prop) (a : α) (s' : Shared) : Prop
  | mk (z' : Z) (σ' : St) (le : Z.le z z') (r : R C zs σ' z' s') (p : P z' a σ')
noncomputable def TT {α : Type} (C : Cx) (z₀ : Z) (t : Sem α) (P : Z → α → St → Prop) (X : XP) (σ : St) : Prop :=
  ∀ zs z s, Z.le z₀ z → R C zs σ z s →
    wpAny C.M C.A t (Post C zs z P) (PX C zs z X) s

section
variable {α β : Type} {C : Cx} {z₀ : Z} {X : XP} {σ : St}

theorem TT.bind {m : Sem α} {f : α → Sem β} {P : Z → β → St → Prop} (h : TT C z₀ m (fun z a σ1 => TT C z (f a) P X σ1) X σ) : TT C z₀ (m >>= f) P X σ := by
  intro zs z s hz hR
  refine wpAny_bind (wpAny_mono (h zs z s hz hR) ?_ fun _ _ x => x)
  rintro a s1 ⟨z1, σ1, l1, R1, k⟩
  refine wpAny_mono (k zs z1 s1 (Z.le_refl _) R1) ?_ fun _ _ x => PX.le l1 x
  rintro b s2 ⟨z2, σ2, l2, R2, q⟩
  exact ⟨z2, σ2, Z.le_trans l1 l2, R2, q⟩
theorem TT.pure {a : α} {P : Z → α → St → Prop} (h : ∀ z, Z.le z₀ z → P z a σ) : TT C z₀ (Pure.pure a) P X σ :=
  fun _ z _ hz hR => wpAny_pure ⟨z, σ, Z.le_refl _, hR, h z hz⟩
theorem TT.mono {t : Sem α} {P P' : Z → α → St → Prop} (h : TT C z₀ t P X σ) (k : ∀ z a σ', Z.le z₀ z → P z a σ' → P' z a σ') : TT C z₀ t P' X σ := by
  intro zs z s hz hR
  refine wpAny_mono (h zs z s hz hR) ?_ fun _ _ x => x
  rintro a s1 ⟨z1, σ1, l1, R1, q⟩
  exact ⟨z1, σ1, l1, R1, k _ _ _ (Z.le_trans hz l1) q⟩
theorem TT.eq {t : Sem α} {a : α} {P : Z → α → St → Prop} (e : t = Pure.pure a) (h : ∀ z, Z.le z₀ z → P z a σ) : TT C z₀ t P X σ := e ▸ TT.pure h
theorem TT.holding {vs : List Value} {t : Sem α} {P : Z → α → St → Prop} (h : TT C z₀ t P X σ) : TT C z₀ (PySem.holding vs t) P X σ :=
  fun zs z s hz hR => wpAny_holding (h zs z s hz hR)
theorem TT.operate {vs : List Value} {t : Sem Value} {P : Z → Value → St → Prop} (h : TT C z₀ t P X σ) : TT C z₀ (PySem.operate vs t) P X σ :=
  fun zs z s hz hR => wpAny_operate' (h zs z s hz hR)
theorem TT.at_ {p : Pos} {f : Unit → Sem α} {P : Z → α → St → Prop} (h : TT C z₀ (f ()) P X σ) : TT C z₀ (standAt p >>= f) P X σ :=
  fun zs z s hz hR => wpAny_bind (wpAny_standAt (h zs z s hz hR))
end

/-- what an expression hands on -/
inductive PVal (Q : V → St → Prop) (z : Z) (val : Value) (σ : St) : Prop
  | mk (v : V) (r : Rep z v val) (q : Q v σ)
noncomputable def TE (C : Cx) (e : Expr) (Q : V → St → Prop) (X : XP) (σ : St) : Prop := ∀ z₀, TT C z₀ (eval e C.env) (PVal Q) X σ

inductive Fl where
  | next | brk | cont
  | ret (v : V)
inductive RepF (z : Z) : Fl → Flow → Prop
  | next : RepF z .next .next
  | brk : RepF z .brk .brk
  | cont : RepF z .cont .cont
  | ret {v : V} {x : Value} (h : Rep z v x) : RepF z (.ret v) (.ret x)
inductive PFl (Q : Fl → St → Prop) (z : Z) (f : Flow) (σ : St) : Prop
  | mk (fl : Fl) (r : RepF z fl f) (q : Q fl σ)
noncomputable def TS (C : Cx) (st : Stmt) (Q : Fl → St → Prop) (X : XP) (σ : St) : Prop := ∀ z₀, TT C z₀ (exec st C.env) (PFl Q) X σ
noncomputable def TSs (C : Cx) (sts : List Stmt) (Q : Fl → St → Prop) (X : XP) (σ : St) : Prop := ∀ z₀, TT C z₀ (execs sts C.env) (PFl Q) X σ
/-- a test -/
noncomputable def TB (C : Cx) (e : Expr) (Q : Bool → St → Prop) (X : XP) (σ : St) : Prop := ∀ z₀, TT C z₀ (isTrue e C.env (eval e C.env)) (fun _ b σ' => Q b σ') X σ

section
variable {C : Cx} {zs z : Z} {σ : St} {s : Shared}

theorem RH.grow {g : Gd} {H : Led} (r : RH g zs H z s) {h' : Heap} {t : Nat} (k : ∀ b o, s.heap.get? b = some o → h'.get? b = some o) : RH g zs H z { s with heap := h', toks := t } where
  hz b o e := k b o (r.hz b o e)
  hbase := r.hbase
  hzs b o e := let ⟨sl, q, w⟩ := r.hzs b o e; ⟨sl, k _ _ q, w⟩
  disj := r.disj
  hH p hp := let ⟨a, b⟩ := r.hH p hp; ⟨a.keep fun o ho => k _ _ ho, b⟩
  nodup := r.nodup
  gens := r.gens
  os := r.os
theorem R.grow (r : R C zs σ z s) {h' : Heap} {t : Nat} (k : ∀ b o, s.heap.get? b = some o → h'.get? b = some o) : R C zs σ z { s with heap := h', toks := t } where
  rh := r.rh.grow k
  ns := let ⟨m, a, b⟩ := r.ns; ⟨m, a.keeps k, b⟩
  cells x v h1 h2 := let ⟨c, val, a, b, d⟩ := r.cells x v h1 h2; ⟨c, val, a, b.keeps k, d⟩
  cellsOk p hp := let ⟨⟨ov, a⟩, b⟩ := r.cellsOk p hp; ⟨⟨ov, a.keeps k⟩, b⟩
  locFree := r.locFree
  fr := r.fr
theorem R.toks (r : R C zs σ z s) (t : Nat) : R C zs σ z { s with toks := t } := r.grow fun _ _ e => e
theorem R.push (r : R C zs σ z s) (o : Obj) (t : Nat) : R C zs σ z { s with heap := s.heap.push o, toks := t } := r.grow fun _ _ e => Heap.get?_push_of_some _ e
theorem R.push' (r : R C zs σ z s) (o : Obj) : R C zs σ z { s with heap := s.heap.push o } := r.push o s.toks

noncomputable def Apart (C : Cx) (zs : Z) (σ : St) (a : Addr) : Prop := zs a = none ∧ a ≠ C.env.locals ∧ a ∉ σ.H.map (·.1) ∧ ∀ p ∈ C.env.cells, p.2 ≠ a

theorem RH.lt_z {g : Gd} {H : Led} (r : RH g zs H z s) {b : Addr} {o : Obj} (e : z b = some o) : b < s.heap.objs.size := Heap.lt_size (r.hz b o e)
theorem RH.fresh_z {g : Gd} {H : Led} (r : RH g zs H z s) {b : Addr} (e : s.heap.objs.size ≤ b) : z b = none := by
  cases h : z b with
  | none => rfl
  | some o => exact absurd (r.lt_z h) (Nat.not_lt.mpr e)
theorem RH.fresh_zs {g : Gd} {H : Led} (r : RH g zs H z s) {b : Addr} (e : s.heap.objs.size ≤ b) : zs b = none := by
  cases h : zs b with
  | none => rfl
  | some o => obtain ⟨sl, q, _⟩ := r.hzs _ _ h; exact absurd (Heap.lt_size q) (Nat.not_lt.mpr e)
theorem AOK.lt {g : Gd} {h : Heap} {a : Addr} {o : AO} (k : AOK g z h a o) : a < h.objs.size := by
  cases o with
  | list _ => obtain ⟨_, _, ho, _⟩ := k; exact Heap.lt_size ho
  | dictS _ => obtain ⟨_, ⟨_, _, _, ho, _⟩, _⟩ := k; exact Heap.lt_size ho
  | dictI _ => obtain ⟨_, ⟨_, _, _, ho, _⟩, _⟩ := k; exact Heap.lt_size ho
  | raw _ => exact Heap.lt_size k
theorem RH.fresh_H {g : Gd} {H : Led} (r : RH g zs H z s) {b : Addr} (e : s.heap.objs.size ≤ b) : b ∉ H.map (·.1) := by
  intro hb
  obtain ⟨p, hp, rfl⟩ := List.mem_map.mp hb
  exact absurd (r.hH p hp).1.lt (Nat.not_lt.mpr e)
theorem R.apart_new (r : R C zs σ z s) {a : Addr} (h : s.heap.objs.size ≤ a) : Apart C zs σ a := by
  refine ⟨r.rh.fresh_zs h, ?_, r.rh.fresh_H h, ?_⟩
  · intro e
    obtain ⟨m, n, _⟩ := r.ns
    exact absurd n.lt (Nat.not_lt.mpr (e ▸ h))
  · intro p hp e
    obtain ⟨⟨ov, c⟩, _⟩ := r.cellsOk p hp
    exact absurd c.lt (Nat.not_lt.mpr (e ▸ h))

theorem Z.le_put {g : Gd} {H : Led} (r : RH g zs H z s) {a : Addr} {o : Obj} (e : s.heap.get? a = some o) : Z.le z (z.put a o) := by
  intro b o' hb
  unfold Z.put
  by_cases h : b = a
  · subst h; rw [if_pos rfl]; rw [r.hz _ _ hb] at e; exact e.symm
  · rw [if_neg h]; exact hb
theorem put_ne {a b : Addr} {o : Obj} (h : b ≠ a) (e : z b = none) : z.put a o b = none := by unfold Z.put; rw [if_neg h]; exact e
theorem put_self {a : Addr} {o : Obj} : z.put a o a = some o := if_pos rfl

theorem RH.freeze {g : Gd} {H : Led} (r : RH g zs H z s) {a : Addr} {o : Obj} (e : s.heap.get? a = some o) (h1 : zs a = none) (h2 : a ∉ H.map (·.1)) : RH g zs H (z.put a o) s where
  hz b o' h := by
    unfold Z.put at h
    by_cases hb : b = a
    · subst hb; rw [if_pos rfl] at h; cases h; exact e
    · rw [if_neg hb] at h; exact r.hz b o' h
  hbase b o' h := Z.le_put r e _ _ (r.hbase b o' h)
  hzs := r.hzs
  disj b o' h := put_ne (fun q => by subst q; rw [h1] at h; cases h) (r.disj b o' h)
  hH p hp := by
    obtain ⟨x, y, w⟩ := r.hH p hp
    refine ⟨x.mono (Z.le_put r e), put_ne (fun q => h2 ?_) y, w⟩
    rw [← q]; exact List.mem_map_of_mem hp
  nodup := r.nodup
  gens := r.gens
  os := r.os
theorem R.freeze (r : R C zs σ z s) {a : Addr} {o : Obj} (e : s.heap.get? a = some o) (q : Apart C zs σ a) : R C zs σ (z.put a o) s where
  rh := r.rh.freeze e q.1 q.2.2.1
  ns := let ⟨m, x, y⟩ := r.ns; ⟨m, x, fun n v h1 h2 => let ⟨val, u, w⟩ := y n v h1 h2; ⟨val, u, w.mono (Z.le_put r.rh e)⟩⟩
  cells x v h1 h2 := let ⟨c, val, u, w, t⟩ := r.cells x v h1 h2; ⟨c, val, u, w, t.mono (Z.le_put r.rh e)⟩
  cellsOk p hp := let ⟨u, w, t⟩ := r.cellsOk p hp; ⟨u, put_ne (q.2.2.2 p hp) w, t⟩
  locFree := ⟨put_ne (Ne.symm q.2.1) r.locFree.1, r.locFree.2⟩
  fr := r.fr

/-- a new object goes into the frozen part -/
theorem R.frozen (r : R C zs σ z s) (o : Obj) (t : Nat) (hf : o.isFreed = false := by rfl) :
    R C zs σ (z.put s.heap.objs.size o) { s with heap := s.heap.push o, toks := t } ∧ Z.le z (z.put s.heap.objs.size o) :=
  have e : ({ s with heap := s.heap.push o, toks := t } : Shared).heap.get? s.heap.objs.size = some o := Heap.get?_push_size _ hf
  have r' := r.push o t
  ⟨r'.freeze e (r.apart_new (Nat.le_refl _)), Z.le_put r'.rh e⟩

/-- a new object goes onto the ledger -/
theorem RH.ledger {g : Gd} {H : Led} (r : RH g zs H z s) {a : Addr} {o : AO} (h : AOK g z s.heap a o) (h0 : z a = none) (h1 : zs a = none) (h2 : a ∉ H.map (·.1)) : RH g zs ((a, o) :: H) z s where
  hz := r.hz
  hbase := r.hbase
  hzs := r.hzs
  disj := r.disj
  hH p hp := by
    rcases List.mem_cons.mp hp with e | hp
    · subst e; exact ⟨h, h0, h1⟩
    · exact r.hH p hp
  nodup := by rw [List.map_cons]; exact List.nodup_cons.mpr ⟨h2, r.nodup⟩
  gens := r.gens
  os := r.os
theorem R.ledger (r : R C zs σ z s) {a : Addr} {o : AO} (h : AOK C.g z s.heap a o) (h0 : z a = none) (q : Apart C zs σ a) : R C zs ⟨σ.loc, (a, o) :: σ.H⟩ z s where
  rh := r.rh.ledger h h0 q.1 q.2.2.1
  ns := r.ns
  cells := r.cells
  cellsOk p hp := let ⟨u, w, t, v, y⟩ := r.cellsOk p hp; ⟨u, w, t, v, by
    rw [List.map_cons, List.mem_cons]; exact fun e => e.elim (q.2.2.2 p hp) y⟩
  locFree := ⟨r.locFree.1, r.locFree.2.1, by
    rw [List.map_cons, List.mem_cons]; exact fun e => e.elim (fun e => q.2.1 e.symm) r.locFree.2.2⟩
  fr := r.fr

inductive Upd (a : Addr) (o o' : AO) : Led → Led → Prop
  | head {t : Led} : Upd a o o' ((a, o) :: t) ((a, o') :: t)
  | tail {p : Addr × AO} {t t' : Led} (h : Upd a o o' t t') : Upd a o o' (p :: t) (p :: t')
theorem Upd.keys {a : Addr} {o o' : AO} {H H' : Led} (u : Upd a o o' H H') : H'.map (·.1) = H.map (·.1) := by
  induction u with
  | head => rfl
  | tail _ ih => simp [ih]
theorem Upd.mem {a : Addr} {o o' : AO} {H H' : Led} (u : Upd a o o' H H') : (a, o) ∈ H := by
  induction u with
  | head => exact List.mem_cons_self
  | tail _ ih => exact List.mem_cons_of_mem _ ih
theorem Upd.of_mem {a : Addr} {o o' : AO} {H H' : Led} (u : Upd a o o' H H') (hn : (H.map (·.1)).Nodup) : ∀ p ∈ H', p = (a, o') ∨ (p ∈ H ∧ p.1 ≠ a) := by
  induction u with
  | head =>
    intro p hp
    rw [List.map_cons, List.nodup_cons] at hn
    rcases List.mem_cons.mp hp with e | hp
    · exact .inl e
    · exact .inr ⟨List.mem_cons_of_mem _ hp, fun e => hn.1 (e ▸ List.mem_map_of_mem (f := (·.1)) hp)⟩
  | tail u' ih =>
    intro p hp
    rw [List.map_cons, List.nodup_cons] at hn
    rcases List.mem_cons.mp hp with e | hp
    · subst e
      exact .inr ⟨List.mem_cons_self, fun e => hn.1 (e ▸ List.mem_map_of_mem (f := (·.1)) u'.mem)⟩
    · exact (ih hn.2 p hp).imp id fun ⟨x, y⟩ => ⟨List.mem_cons_of_mem _ x, y⟩

theorem RH.upd {g : Gd} {H H' : Led} (r : RH g zs H z s) {a : Addr} {o o' : AO} (u : Upd a o o' H H') {h' : Heap} {t : Nat} (hs : Heap.SameBut a s.heap h') (k : AOK g z h' a o') :
    RH g zs H' z { s with heap := h', toks := t } where
  hz b o e := (hs.2 b fun q => by have := (r.hH _ u.mem).2.1; subst q; rw [this] at e; cases e).trans (r.hz b o e)
  hbase := r.hbase
  hzs b o e := let ⟨sl, q, w⟩ := r.hzs b o e; ⟨sl, (hs.2 b fun q => by have := (r.hH _ u.mem).2.2; subst q; rw [this] at e; cases e).trans q, w⟩
  disj := r.disj
  hH p hp := by
    rcases u.of_mem r.nodup p hp with e | ⟨hm, hn⟩
    · subst e; exact ⟨k, (r.hH _ u.mem).2⟩
    · obtain ⟨x, y⟩ := r.hH p hm
      exact ⟨x.keep fun o ho => (hs.2 _ hn).trans ho, y⟩
  nodup := by rw [u.keys]; exact r.nodup
  gens := r.gens
  os := r.os
theorem R.upd {H' : Led} (r : R C zs σ z s) {a : Addr} {o o' : AO} (u : Upd a o o' σ.H H') {h' : Heap} {t : Nat} (hs : Heap.SameBut a s.heap h') (k : AOK C.g z h' a o') :
    R C zs ⟨σ.loc, H'⟩ z { s with heap := h', toks := t } where
  rh := r.rh.upd u hs k
  ns := let ⟨m, x, y⟩ := r.ns; ⟨m, x.sameBut hs fun e => r.locFree.2.2 (e ▸ List.mem_map_of_mem (f := (·.1)) u.mem), y⟩
  cells x v h1 h2 := let ⟨c, val, p, q, w⟩ := r.cells x v h1 h2
    ⟨c, val, p, q.sameBut hs fun e => (r.cellsOk (x, c) (mem_of_lookup p)).2.2.2.2 (e ▸ List.mem_map_of_mem (f := (·.1)) u.mem), w⟩
  cellsOk p hp := let ⟨⟨ov, x⟩, y, w, q, n⟩ := r.cellsOk p hp
    ⟨⟨ov, x.sameBut hs fun e => n (e ▸ List.mem_map_of_mem (f := (·.1)) u.mem)⟩, y, w, q, by show p.2 ∉ H'.map (·.1); rw [u.keys]; exact n⟩
  locFree := ⟨r.locFree.1, r.locFree.2.1, by show _ ∉ H'.map (·.1); rw [u.keys]; exact r.locFree.2.2⟩
  fr := r.fr

/-- less is known -/
theorem R.weaken {σ' : St} (r : R C zs σ z s) (h1 : ∀ x v, σ'.loc.lookup x = some v → σ.loc.lookup x = some v) (h2 : σ'.H.Sublist σ.H) : R C zs σ' z s where
  rh := { r.rh with hH := fun p hp => r.rh.hH p (h2.subset hp), nodup := r.rh.nodup.sublist (h2.map _) }
  ns := let ⟨m, x, y⟩ := r.ns; ⟨m, x, fun n v a b => y n v (h1 n v a) b⟩
  cells x v a b := r.cells x v (h1 x v a) b
  cellsOk p hp := let ⟨a, b, c, d, e⟩ := r.cellsOk p hp; ⟨a, b, c, d, fun q => e ((h2.map _).subset q)⟩
  locFree := ⟨r.locFree.1, r.locFree.2.1, fun q => r.locFree.2.2 ((h2.map _).subset q)⟩
  fr := r.fr
end

theorem TT.weaken {α : Type} {C : Cx} {z₀ : Z} {t : Sem α} {P : Z → α → St → Prop} {X : XP} {σ σ' : St} (h1 : ∀ x v, σ'.loc.lookup x = some v → σ.loc.lookup x = some v) (h2 : σ'.H.Sublist σ.H)
    (h : TT C z₀ t P X σ') : TT C z₀ t P X σ := fun zs z s hz hR => h zs z s hz (hR.weaken h1 h2)
end PL

end
section
open PySem PySem.Calls PyProof.Rows
set_option Elab.async false
set_option linter.unusedVariables false
set_option linter.unusedSimpArgs false
namespace PL

noncomputable def setL : List (Str × V) → Str → V → List (Str × V)
  | [], x, v => [(x, v)]
  | (y, w) :: r, x, v => if x == y then (y, v) :: r else (y, w) :: setL r x v
theorem lookup_setL (x : Str) (v : V) (y : Str) : ∀ l : List (Str × V), (setL l x v).lookup y = if y = x then some v else l.lookup y
  | [] => by
    by_cases h : y = x
    · subst h; simp [setL, List.lookup]
    · have : (y == x) = false := beq_eq_false_iff_ne.mpr h
      simp [setL, List.lookup, this, h]
  | (k, w) :: r => by
    unfold setL
    by_cases hk : x = k
    · subst hk
      rw [if_pos (by simp)]
      by_cases h : y = x
      · subst h; simp [List.lookup]
      · have : (y == x) = false := beq_eq_false_iff_ne.mpr h
        simp [List.lookup, this, h]
    · rw [if_neg (by simpa using hk)]
      by_cases h : y = k
      · subst h
        have hyx : ¬ y = x := fun e => hk e.symm
        simp [List.lookup, hyx]
      · have : (y == k) = false := beq_eq_false_iff_ne.mpr h
        rw [List.lookup_cons, this]
        simp only
        rw [lookup_setL x v y r, List.lookup_cons, this]

section
variable {C : Cx} {X : XP} {σ : St} {zs z z₀ : Z} {s : Shared}

theorem RH.base {g : Gd} {H : Led} (r : RH g zs H z s) : ∀ b o, g.base.get? b = some o → s.heap.get? b = some o := fun b o e => r.hz b o (r.hbase b o e)

/-- a value handed on with no change of the state but the tokens -/
theorem PVal.toks {Q : V → St → Prop} (hR : R C zs σ z s) {v : V} {x : Value} {t : Nat} (r : Rep z v x) (h : Q v σ) :
    Post C zs z (PVal Q) x { s with toks := t } := ⟨z, σ, Z.le_refl _, hR.toks t, v, r, h⟩
theorem PVal.same {Q : V → St → Prop} (hR : R C zs σ z s) {v : V} {x : Value} (r : Rep z v x) (h : Q v σ) :
    Post C zs z (PVal Q) x s := ⟨z, σ, Z.le_refl _, hR, v, r, h⟩

theorem TE.name_local {x : Str} {p : Pos} {v : V} {Q : V → St → Prop} (hl : C.env.kindOf x = some .local) (hv : σ.loc.lookup x = some v) (h : Q v σ) (hd : (x == ("__debug__" : Str)) = false := by decide) :
    TE C (.Name x p) Q X σ := by
  intro z₀ zs z s hz hR
  obtain ⟨m, hn, hm⟩ := hR.ns
  obtain ⟨val, e, r⟩ := hm x v hv hl
  exact wpAny_Name (wpAny_loadName_local C.hk hl hn e (PVal.same hR r h)) hd
theorem TE.name_cell {x : Str} {p : Pos} {v : V} {Q : V → St → Prop} (hl : C.env.kindOf x = some .cell) (hv : σ.loc.lookup x = some v) (h : Q v σ) (hd : (x == ("__debug__" : Str)) = false := by decide) :
    TE C (.Name x p) Q X σ := by
  intro z₀ zs z s hz hR
  obtain ⟨c, val, e, hc, r⟩ := hR.cells x v hv (by rw [hl]; rfl)
  exact wpAny_Name (wpAny_loadName_cell C.hk hl e hc (PVal.same hR r h)) hd
theorem TE.name_glob {x : Str} {p : Pos} {v : Value} {Q : V → St → Prop} (hl : C.env.kindOf x = some .globalImplicit) (hv : C.g.mg x = some v) (h : Q (.con v) σ) (hd : (x == ("__debug__" : Str)) = false := by decide) :
    TE C (.Name x p) Q X σ := by
  intro z₀ zs z s hz hR
  refine Name_function_global C.hk hl (loadGlobal_global (mg := C.g.mg) ?_ hv (PVal.same hR (.con v) h)) hd
  rw [C.hglob]; exact C.g.hmg.keeps hR.rh.base
theorem TE.name_builtin {x : Str} {p : Pos} {v : Value} {Q : V → St → Prop} (hl : C.env.kindOf x = some .globalImplicit) (hm : C.g.mg x = none) (hv : bootBuiltins x = some v) (h : Q (.con v) σ)
    (hd : (x == ("__debug__" : Str)) = false := by decide) (hn : x ≠ "__name__" := by decide) : TE C (.Name x p) Q X σ := by
  intro z₀ zs z s hz hR
  refine Name_function_global C.hk hl (loadGlobal_builtin (mg := C.g.mg) (mb := C.g.mb) ?_ hm ?_ ((C.g.hbi x hn).trans hv) (PVal.same hR (.con v) h)) hd
  · rw [C.hglob]; exact C.g.hmg.keeps hR.rh.base
  · rw [C.hbuilt]; exact C.g.hmb.keeps hR.rh.base

theorem TE.const_int {i : Int} {k : Nat} {p : Pos} {Q : V → St → Prop} (h : Q (.int i) σ) : TE C (.Constant (.int i) k p) Q X σ :=
  fun z₀ zs z s hz hR => wpAny_Constant_int (PVal.toks hR (.int i _) h)
theorem TE.const_none {k : Nat} {p : Pos} {Q : V → St → Prop} (h : Q .none σ) : TE C (.Constant .none k p) Q X σ :=
  fun z₀ zs z s hz hR => wpAny_Constant_none (PVal.same hR .none h)
theorem TE.const_bool {b : Bool} {k : Nat} {p : Pos} {Q : V → St → Prop} (h : Q (.bool b) σ) : TE C (.Constant (.bool b) k p) Q X σ :=
  fun z₀ zs z s hz hR => wpAny_Constant_bool (PVal.same hR (.bool b) h)
theorem rep_str (x : Str) (t : Tok) : Rep z (.txt false x.cps.toList) (.str x t) := by
  have : x = ⟨x.cps.toList.toArray⟩ := by simp
  conv => rhs; rw [this]
  exact .str _ t
theorem TE.const_str {x : Str} {k : Nat} {p : Pos} {Q : V → St → Prop} (h : Q (.txt false x.cps.toList) σ) : TE C (.Constant (.str x) k p) Q X σ :=
  fun z₀ zs z s hz hR => wpAny_Constant_str (PVal.toks hR (rep_str x _) h)
theorem rep_bytes (b : List UInt8) (t : Tok) : Rep z (.txt true (b.map UInt8.toNat)) (.bytes b.toArray t) := by
  have : b = (b.map UInt8.toNat).map UInt8.ofNat := by simp [List.map_map, Function.comp_def]
  conv => rhs; rw [this]
  exact .bytes _ t (fun c hc => by
    obtain ⟨d, _, rfl⟩ := List.mem_map.mp hc
    exact UInt8.toNat_lt d)
theorem TE.const_bytes {b : List UInt8} {k : Nat} {p : Pos} {Q : V → St → Prop} (h : Q (.txt true (b.map UInt8.toNat)) σ) : TE C (.Constant (.bytes b) k p) Q X σ :=
  fun z₀ zs z s hz hR => wpAny_mkTextBytes (PVal.toks hR (rep_bytes b _) h)

/-! operators -/
noncomputable def Bin (C : Cx) (op : Operator) (a b : V) (Q : V → St → Prop) (X : XP) (σ : St) : Prop := ∀ z₀ x y, Rep z₀ a x → Rep z₀ b y → TT C z₀ (binaryOp op x y) (PVal Q) X σ
noncomputable def Inp (C : Cx) (op : Operator) (a b : V) (Q : V → St → Prop) (X : XP) (σ : St) : Prop := ∀ z₀ x y, Rep z₀ a x → Rep z₀ b y → TT C z₀ (inplaceOp op x y) (PVal Q) X σ
noncomputable def Un (C : Cx) (op : UnaryOp) (a : V) (Q : V → St → Prop) (X : XP) (σ : St) : Prop := ∀ z₀ x, Rep z₀ a x → TT C z₀ (unaryOp op x) (PVal Q) X σ
noncomputable def Cmp (C : Cx) (op : CmpOp) (a b : V) (Q : V → St → Prop) (X : XP) (σ : St) : Prop := ∀ z₀ x y, Rep z₀ a x → Rep z₀ b y → TT C z₀ (compareOp op x y) (PVal Q) X σ
noncomputable def Tru (C : Cx) (a : V) (Q : Bool → St → Prop) (X : XP) (σ : St) : Prop := ∀ z₀ x, Rep z₀ a x → TT C z₀ (truthy x) (fun _ b σ' => Q b σ') X σ

theorem TE.binop {l r : Expr} {op : Operator} {p : Pos} {Q : V → St → Prop} (h : TE C l (fun a σ1 => TE C r (fun b σ2 => Bin C op a b Q X σ2) X σ1) X σ) : TE C (.BinOp l op r p) Q X σ := by
  intro z₀
  rw [eval_BinOp]
  refine TT.bind (TT.mono (h z₀) ?_)
  rintro z a σ1 l1 ⟨va, ra, h1⟩
  refine TT.bind (TT.holding (TT.mono (h1 z) ?_))
  rintro z' b σ2 l2 ⟨vb, rb, h2⟩
  exact TT.at_ (TT.operate (h2 z' a b (ra.mono l2) rb))
theorem TE.unop {x : Expr} {op : UnaryOp} {p : Pos} {Q : V → St → Prop} (h : TE C x (fun a σ1 => Un C op a Q X σ1) X σ) : TE C (.UnaryOp op x p) Q X σ := by
  intro z₀
  rw [arm_eval_UnaryOp]
  refine TT.bind (TT.mono (h z₀) ?_)
  rintro z a σ1 l1 ⟨va, ra, h1⟩
  exact TT.at_ (TT.holding (h1 z a ra))
theorem TE.cmp {l r : Expr} {op : CmpOp} {p : Pos} {Q : V → St → Prop} (h : TE C l (fun a σ1 => TE C r (fun b σ2 => Cmp C op a b Q X σ2) X σ1) X σ) (hm : behindInMarks op r = false := by with_unfolding_all rfl) :
    TE C (.Compare l [op] [r] p) Q X σ := by
  intro z₀
  rw [eval_Compare1, markedBehindIn_of_false hm]
  refine TT.bind (TT.mono (h z₀) ?_)
  rintro z a σ1 l1 ⟨va, ra, h1⟩
  refine TT.bind (TT.holding (TT.mono (h1 z) ?_))
  rintro z' b σ2 l2 ⟨vb, rb, h2⟩
  exact TT.at_ (TT.operate (h2 z' a b (ra.mono l2) rb))
inductive IsB (Q : Bool → St → Prop) (v : V) (σ : St) : Prop
  | mk (b : Bool) (e : v = .bool b) (q : Q b σ)
theorem TB.cmp {l r : Expr} {op : CmpOp} {p : Pos} {Q : Bool → St → Prop} (h : TE C l (fun a σ1 => TE C r (fun b σ2 => Cmp C op a b (IsB Q) X σ2) X σ1) X σ) (hm : behindInMarks op r = false := by with_unfolding_all rfl) :
    TB C (.Compare l [op] [r] p) Q X σ := by
  intro z₀
  rw [isTrue_Compare1, markedBehindIn_of_false hm]
  refine TT.bind (TT.mono (h z₀) ?_)
  rintro z a σ1 l1 ⟨va, ra, h1⟩
  refine TT.bind (TT.holding (TT.mono (h1 z) ?_))
  rintro z' b σ2 l2 ⟨vb, rb, h2⟩
  refine TT.at_ (TT.bind (TT.operate (TT.mono (h2 z' a b (ra.mono l2) rb) ?_)))
  rintro z'' c σ3 l3 ⟨vc, rc, b, rfl, h3⟩
  cases rc
  refine TT.holding (TT.eq (a := b) rfl fun _ _ => h3)
theorem TB.not {x : Expr} {p : Pos} {Q : Bool → St → Prop} (h : TB C x (fun b σ1 => Q (!b) σ1) X σ) : TB C (.UnaryOp .Not x p) Q X σ := by
  intro z₀
  rw [arm_isTrue_UnaryOp]
  refine TT.bind (TT.mono (h z₀) ?_)
  rintro z a σ1 l1 h1
  exact TT.pure fun _ _ => h1
theorem TB.val {e : Expr} {Q : Bool → St → Prop} (h : TE C e (fun v σ1 => Tru C v Q X σ1) X σ) (he : isTrue e C.env (eval e C.env) = (do let v ← eval e C.env; standAt e.pos; holding [v] (truthy v)) := by rfl) : TB C e Q X σ := by
  intro z₀
  rw [he]
  refine TT.bind (TT.mono (h z₀) ?_)
  rintro z a σ1 l1 ⟨va, ra, h1⟩
  exact TT.at_ (TT.holding (h1 z a ra))
noncomputable def TBall (C : Cx) (op : BoolOp) (es : List Expr) (Q : Bool → St → Prop) (X : XP) (σ : St) : Prop := ∀ z₀, TT C z₀ (allTrue op es C.env) (fun _ b σ' => Q b σ') X σ
theorem TB.boolop {op : BoolOp} {es : List Expr} {p : Pos} {Q : Bool → St → Prop} (h : TBall C op es Q X σ) : TB C (.BoolOp op es p) Q X σ := by
  intro z₀; rw [arm_isTrue_BoolOp]; exact h z₀
theorem TBall.and_nil {Q : Bool → St → Prop} (h : Q true σ) : TBall C .And [] Q X σ := fun z₀ => TT.pure fun _ _ => h
theorem TBall.or_nil {Q : Bool → St → Prop} (h : Q false σ) : TBall C .Or [] Q X σ := fun z₀ => TT.pure fun _ _ => h
theorem TBall.and_cons {x : Expr} {rest : List Expr} {Q : Bool → St → Prop} (h : TB C x (fun b σ1 => if b then TBall C .And rest Q X σ1 else Q false σ1) X σ) : TBall C .And (x :: rest) Q X σ := by
  intro z₀
  show TT C z₀ (do match BoolOp.And, ← isTrue x C.env (eval x C.env) with | .And, false => pure false | .Or, true => pure true | _, _ => allTrue .And rest C.env) _ X σ
  refine TT.bind (TT.mono (h z₀) ?_)
  rintro z b σ1 l1 h1
  cases b
  · exact TT.pure fun _ _ => h1
  · exact h1 z
theorem TBall.or_cons {x : Expr} {rest : List Expr} {Q : Bool → St → Prop} (h : TB C x (fun b σ1 => if b then Q true σ1 else TBall C .Or rest Q X σ1) X σ) : TBall C .Or (x :: rest) Q X σ := by
  intro z₀
  show TT C z₀ (do match BoolOp.Or, ← isTrue x C.env (eval x C.env) with | .And, false => pure false | .Or, true => pure true | _, _ => allTrue .Or rest C.env) _ X σ
  refine TT.bind (TT.mono (h z₀) ?_)
  rintro z b σ1 l1 h1
  cases b
  · exact h1 z
  · exact TT.pure fun _ _ => h1
theorem TE.ifexp {t b o : Expr} {p : Pos} {Q : V → St → Prop} (h : TB C t (fun c σ1 => if c then TE C b Q X σ1 else TE C o Q X σ1) X σ) : TE C (.IfExp t b o p) Q X σ := by
  intro z₀
  rw [arm_eval_IfExp]
  refine TT.bind (TT.mono (h z₀) ?_)
  rintro z c σ1 l1 h1
  cases c
  · exact h1 z
  · exact h1 z
noncomputable def TEb (C : Cx) (op : BoolOp) (es : List Expr) (Q : V → St → Prop) (X : XP) (σ : St) : Prop := ∀ pos z₀, TT C z₀ (boolOp pos op (evalEach es C.env)) (PVal Q) X σ
theorem TE.boolop {op : BoolOp} {es : List Expr} {p : Pos} {Q : V → St → Prop} (h : TEb C op es Q X σ) : TE C (.BoolOp op es p) Q X σ := fun z₀ => h p z₀
theorem TEb.one {op : BoolOp} {e : Expr} {Q : V → St → Prop} (h : TE C e Q X σ) : TEb C op [e] Q X σ := fun p z₀ => h z₀
theorem TEb.or_cons {e e' : Expr} {r : List Expr} {Q : V → St → Prop} (h : TE C e (fun v σ1 => Tru C v (fun b σ2 => if b then Q v σ2 else TEb C .Or (e' :: r) Q X σ2) X σ1) X σ) : TEb C .Or (e :: e' :: r) Q X σ := by
  intro p z₀
  show TT C z₀ (do
    let v ← eval e C.env
    standAt p
    let t ← holding [v] (truthy v)
    match BoolOp.Or, t with
    | .And, false | .Or, true => pure v
    | _, _ => boolOp p .Or (evalEach (e' :: r) C.env)) _ X σ
  refine TT.bind (TT.mono (h z₀) ?_)
  rintro z a σ1 l1 ⟨va, ra, h1⟩
  refine TT.at_ (TT.bind (TT.holding (TT.mono (h1 z a ra) ?_)))
  rintro z' b σ2 l2 h2
  cases b
  · exact h2 p z'
  · exact TT.pure fun z l => ⟨va, (ra.mono l2).mono l, h2⟩

/-! displays and arguments -/
inductive PArgs (Q : List V → St → Prop) (z : Z) (xs : List Value) (σ : St) : Prop
  | mk (vs : List V) (r : RepL z vs xs) (q : Q vs σ)
noncomputable def TArgs (C : Cx) (es : List Expr) (Q : List V → St → Prop) (X : XP) (σ : St) : Prop := ∀ pos z₀, TT C z₀ (spliced (backTo pos (starEach es C.env))) (PArgs Q) X σ
theorem TArgs.nil {Q : List V → St → Prop} (h : Q [] σ) : TArgs C [] Q X σ := fun pos z₀ => TT.pure fun z _ => ⟨[], .nil, h⟩
theorem TArgs.cons {e : Expr} {r : List Expr} {Q : List V → St → Prop} (h : TE C e (fun v σ1 => TArgs C r (fun vs σ2 => Q (v :: vs) σ2) X σ1) X σ)
    (he : starEach (e :: r) C.env = (false, eval e C.env) :: starEach r C.env := by rfl) : TArgs C (e :: r) Q X σ := by
  intro pos z₀
  rw [he]
  show TT C z₀ (do
    let v ← eval e C.env
    let here ← (pure [v] : Sem (List Value))
    return here ++ (← holding here (spliced (backTo pos (starEach r C.env))))) _ X σ
  refine TT.bind (TT.mono (h z₀) ?_)
  rintro z a σ1 l1 ⟨va, ra, h1⟩
  refine TT.bind (TT.pure fun z1 l2 => TT.bind (TT.holding (TT.mono (h1 pos z1) ?_)))
  rintro z2 xs σ2 l3 ⟨vs, rs, h2⟩
  exact TT.pure fun z3 l4 => ⟨va :: vs, .cons (((ra.mono l2).mono l3).mono l4) (rs.mono l4), h2⟩

theorem size_ok {n : Nat} (h : n ≤ 16777216) : n ≤ sizeLine := by rw [sizeLine_eq]; exact h

/-- a new tuple of known values -/
theorem TT.newTuple {vs : List V} {xs : List Value} {Q : V → St → Prop} (r : RepL z₀ vs xs) (hn : vs.length ≤ 16777216) (h : Q (.tup vs) σ) : TT C z₀ (PySem.newTuple xs) (PVal Q) X σ := by
  intro zs z s hz hR
  refine wpAny_newTuple ?_ (by rw [r.length]; exact size_ok hn)
  obtain ⟨R', l⟩ := hR.frozen { cls := .type "tuple", data := .seq xs.toArray } s.toks
  exact ⟨_, _, l, R', _, .tup put_self ((r.mono hz).mono l), h⟩
/-- a new list, frozen -/
theorem TT.newListF {vs : List V} {xs : List Value} {Q : V → St → Prop} (r : RepL z₀ vs xs) (hn : vs.length ≤ 16777216) (h : Q (.lst vs) σ) : TT C z₀ (PySem.newList xs) (PVal Q) X σ := by
  intro zs z s hz hR
  refine wpAny_newList ?_ (by rw [r.length]; exact size_ok hn)
  obtain ⟨R', l⟩ := hR.frozen { cls := .type "list", data := .seq xs.toArray } s.toks
  exact ⟨_, _, l, R', _, .lst put_self ((r.mono hz).mono l), h⟩
/-- a new list, live -/
theorem TT.newListM {vs : List V} {xs : List Value} {Q : V → St → Prop} (r : RepL z₀ vs xs) (hn : vs.length ≤ 16777216) (h : ∀ a, Q (.ref a) ⟨σ.loc, (a, .list vs) :: σ.H⟩) : TT C z₀ (PySem.newList xs) (PVal Q) X σ := by
  intro zs z s hz hR
  refine wpAny_newList ?_ (by rw [r.length]; exact size_ok hn)
  have R' := hR.push' { cls := .type "list", data := .seq xs.toArray }
  refine ⟨z, _, Z.le_refl _, R'.ledger (a := s.heap.objs.size) (o := .list vs) ⟨xs, 0, Heap.get?_push_size _ rfl, r.mono hz⟩ (hR.rh.fresh_z (Nat.le_refl _)) ?_, _, .ref _, h _⟩
  exact hR.apart_new (Nat.le_refl _)

theorem TE.tuple {es : List Expr} {k : Nat} {p : Pos} {Q : V → St → Prop} (h : TArgs C es (fun vs σ1 => vs.length ≤ 16777216 ∧ Q (.tup vs) σ1) X σ) : TE C (.Tuple es k p) Q X σ := by
  intro z₀
  rw [arm_eval_Tuple]
  refine TT.at_ (TT.bind (TT.mono (h p z₀) ?_))
  rintro z xs σ1 l ⟨vs, r, hn, hq⟩
  exact TT.newTuple r hn hq
theorem TE.listF {es : List Expr} {p : Pos} {Q : V → St → Prop} (h : TArgs C es (fun vs σ1 => vs.length ≤ 16777216 ∧ Q (.lst vs) σ1) X σ) : TE C (.List es p) Q X σ := by
  intro z₀
  rw [arm_eval_List]
  refine TT.at_ (TT.bind (TT.mono (h p z₀) ?_))
  rintro z xs σ1 l ⟨vs, r, hn, hq⟩
  exact TT.newListF r hn hq
theorem TE.listM {es : List Expr} {p : Pos} {Q : V → St → Prop} (h : TArgs C es (fun vs σ1 => vs.length ≤ 16777216 ∧ ∀ a, Q (.ref a) ⟨σ1.loc, (a, .list vs) :: σ1.H⟩) X σ) : TE C (.List es p) Q X σ := by
  intro z₀
  rw [arm_eval_List]
  refine TT.at_ (TT.bind (TT.mono (h p z₀) ?_))
  rintro z xs σ1 l ⟨vs, r, hn, hq⟩
  exact TT.newListM r hn hq
end

/-! storing -/
section
variable {C : Cx} {X : XP} {σ : St} {zs z z₀ : Z} {s : Shared}

theorem R.storeL (hR : R C zs σ z s) {x : Str} {v : V} {val : Value} {h' : Heap} {t : Nat} {m : Str → Option Value} (hm : ∀ y u, σ.loc.lookup y = some u → C.env.kindOf y = some .local → ∃ w, m y = some w ∧ Rep z u w) (hl : C.env.kindOf x = some .local) (r : Rep z v val)
    (hn : h'.Ns C.env.locals (fun y => if y = x then some val else m y)) (hs : Heap.SameBut C.env.locals s.heap h') :
    R C zs ⟨setL σ.loc x v, σ.H⟩ z { s with heap := h', toks := t } := by
  have ne : ∀ b o, z b = some o → b ≠ C.env.locals := fun b o e q => by rw [q, hR.locFree.1] at e; cases e
  have nes : ∀ b o, zs b = some o → b ≠ C.env.locals := fun b o e q => by rw [q, hR.locFree.2.1] at e; cases e
  refine ⟨⟨fun b o e => (hs.2 b (ne b o e)).trans (hR.rh.hz b o e), hR.rh.hbase, fun b o e => ?_, hR.rh.disj, fun p hp => ?_, hR.rh.nodup, hR.rh.gens, hR.rh.os⟩, ⟨_, hn, fun y u hy hk => ?_⟩, fun y u hy hk => ?_, fun p hp => ?_, hR.locFree, hR.fr⟩
  · obtain ⟨sl, q, w⟩ := hR.rh.hzs b o e
    exact ⟨sl, (hs.2 b (nes b o e)).trans q, w⟩
  · obtain ⟨a, b⟩ := hR.rh.hH p hp
    exact ⟨a.keep fun o ho => (hs.2 _ fun q => hR.locFree.2.2 (q ▸ List.mem_map_of_mem (f := (·.1)) hp)).trans ho, b⟩
  · rw [lookup_setL] at hy
    by_cases h : y = x
    · subst h; rw [if_pos rfl] at hy; cases hy; exact ⟨val, by simp, r⟩
    · rw [if_neg h] at hy
      obtain ⟨w, q, r'⟩ := hm y u hy hk
      exact ⟨w, by simp [h, q], r'⟩
  · rw [lookup_setL] at hy
    by_cases h : y = x
    · subst h; rw [hl] at hk; cases hk
    · rw [if_neg h] at hy
      obtain ⟨c, w, a, b, d⟩ := hR.cells y u hy hk
      exact ⟨c, w, a, b.sameBut hs (hR.cellsOk (y, c) (mem_of_lookup a)).2.2.2.1, d⟩
  · obtain ⟨⟨ov, a⟩, b1, b2, b3, b4⟩ := hR.cellsOk p hp
    exact ⟨⟨ov, a.sameBut hs b3⟩, b1, b2, b3, b4⟩

theorem R.storeC (hR : R C zs σ z s) {x : Str} {v : V} {val : Value} {c : Addr} {h' : Heap} (hl : C.env.kindOf x = some .cell) (hc : C.env.cells.lookup x = some c) (hro : x ∉ C.ro) (r : Rep z v val)
    (hn : h'.IsCell c (some val)) (hs : Heap.SameBut c s.heap h') : R C zs ⟨setL σ.loc x v, σ.H⟩ z { s with heap := h' } := by
  obtain ⟨⟨ov, hcell⟩, k1, k2, k3, k4⟩ := hR.cellsOk (x, c) (mem_of_lookup hc)
  have k2 := k2.resolve_right hro
  have ne : ∀ b o, z b = some o → b ≠ c := fun b o e q => by subst q; rw [k1] at e; cases e
  have nes : ∀ b o, zs b = some o → b ≠ c := fun b o e q => by subst q; rw [k2] at e; cases e
  refine ⟨⟨fun b o e => (hs.2 b (ne b o e)).trans (hR.rh.hz b o e), hR.rh.hbase, fun b o e => ?_, hR.rh.disj, fun p hp => ?_, hR.rh.nodup, hR.rh.gens, hR.rh.os⟩, ?_, fun y u hy hk => ?_, fun p hp => ?_, hR.locFree, hR.fr⟩
  · obtain ⟨sl, q, w⟩ := hR.rh.hzs b o e
    exact ⟨sl, (hs.2 b (nes b o e)).trans q, w⟩
  · obtain ⟨a, b⟩ := hR.rh.hH p hp
    exact ⟨a.keep fun o ho => (hs.2 _ fun q => k4 (q ▸ List.mem_map_of_mem (f := (·.1)) hp)).trans ho, b⟩
  · obtain ⟨m, n, hm⟩ := hR.ns
    refine ⟨m, n.sameBut hs (Ne.symm k3), fun y u hy hk => ?_⟩
    rw [lookup_setL] at hy
    by_cases h : y = x
    · subst h; rw [hl] at hk; cases hk
    · rw [if_neg h] at hy; exact hm y u hy hk
  · rw [lookup_setL] at hy
    by_cases h : y = x
    · subst h; rw [if_pos rfl] at hy; cases hy; exact ⟨c, val, hc, hn, r⟩
    · rw [if_neg h] at hy
      obtain ⟨c', w, a, b, d⟩ := hR.cells y u hy hk
      refine ⟨c', w, a, b.sameBut hs fun e => h ?_, d⟩
      subst e
      exact name_of_addr C.apart (mem_of_lookup a) (mem_of_lookup hc)
  · obtain ⟨⟨ov', a⟩, b1, b2, b3, b4⟩ := hR.cellsOk p hp
    by_cases e : p.2 = c
    · exact ⟨⟨_, by rw [e]; exact hn⟩, b1, b2, b3, b4⟩
    · exact ⟨⟨ov', a.sameBut hs e⟩, b1, b2, b3, b4⟩

/-- a name that can be stored: a local one, or a cell's -/
inductive Stores (C : Cx) (x : Str) : Prop
  | loc (h : C.env.kindOf x = some .local)
  | cell (c : Addr) (h : C.env.kindOf x = some .cell) (hc : C.env.cells.lookup x = some c) (hro : x ∉ C.ro)

theorem TT.store {x : Str} {v : V} {val : Value} {P : Z → Unit → St → Prop} (k : Stores C x) (r : Rep z₀ v val) (h : ∀ z, Z.le z₀ z → P z () ⟨setL σ.loc x v, σ.H⟩) : TT C z₀ (bindName C.env x val) P X σ := by
  intro zs z s hz hR
  refine wpAny_bindName ?_
  cases k with
  | loc hl =>
    obtain ⟨m, hn, hm⟩ := hR.ns
    refine wpAny_storeName_local hl hn (fun h' hn' hs' => ⟨z, _, Z.le_refl _, hR.storeL hm hl (r.mono hz) hn' hs', h z hz⟩) ?_
    rw [C.hk]; rfl
  | cell c hl hc hro =>
    obtain ⟨⟨ov, hcell⟩, _⟩ := hR.cellsOk (x, c) (mem_of_lookup hc)
    exact wpAny_storeName_cell C.hk hl hc hcell fun h' hn' hs' => ⟨z, _, Z.le_refl _, hR.storeC hl hc hro (r.mono hz) hn' hs', h z hz⟩

/-! statements -/
theorem TSs.nil {Q : Fl → St → Prop} (h : Q .next σ) : TSs C [] Q X σ := fun z₀ => TT.pure fun z _ => ⟨.next, .next, h⟩
noncomputable abbrev Nx (C : Cx) (r : List Stmt) (Q : Fl → St → Prop) (X : XP) : Fl → St → Prop := fun f σ1 => match f with
  | .next => TSs C r Q X σ1
  | f => Q f σ1
theorem TSs.cons {st : Stmt} {r : List Stmt} {Q : Fl → St → Prop} (h : TS C st (Nx C r Q X) X σ) : TSs C (st :: r) Q X σ := by
  intro z₀
  rw [execs_cons]
  refine TT.bind (TT.mono (h z₀) ?_)
  rintro z f σ1 l ⟨fl, rf, h1⟩
  cases rf with
  | next => exact h1 z
  | brk => exact TT.pure fun z' l' => ⟨.brk, .brk, h1⟩
  | cont => exact TT.pure fun z' l' => ⟨.cont, .cont, h1⟩
  | ret rv => exact TT.pure fun z' l' => ⟨.ret _, .ret (rv.mono l'), h1⟩
theorem TS.brk {p : Pos} {Q : Fl → St → Prop} (h : Q .brk σ) : TS C (.Break p) Q X σ := fun z₀ => by
  rw [arm_exec_Break]; exact TT.at_ (TT.pure fun z _ => ⟨.brk, .brk, h⟩)
theorem TS.cont {p : Pos} {Q : Fl → St → Prop} (h : Q .cont σ) : TS C (.Continue p) Q X σ := fun z₀ => by
  rw [arm_exec_Continue]; exact TT.at_ (TT.pure fun z _ => ⟨.cont, .cont, h⟩)
theorem TS.ret {e : Expr} {p : Pos} {Q : Fl → St → Prop} (h : TE C e (fun v σ1 => Q (.ret v) σ1) X σ) : TS C (.Return (some e) p) Q X σ := fun z₀ => by
  rw [exec_Return_some]
  refine TT.at_ (TT.bind (TT.mono (h z₀) ?_))
  rintro z x σ1 l ⟨v, r, h1⟩
  exact TT.pure fun z' l' => ⟨.ret v, .ret (r.mono l'), h1⟩
theorem TS.if_ {t : Expr} {b o : List Stmt} {p : Pos} {Q : Fl → St → Prop} (h : TB C t (fun c σ1 => if c then TSs C b Q X σ1 else TSs C o Q X σ1) X σ) : TS C (.If t b o p) Q X σ := fun z₀ => by
  rw [exec_If]
  refine TT.at_ (TT.bind (TT.mono (h z₀) ?_))
  rintro z c σ1 l h1
  cases c
  · exact h1 z
  · exact h1 z
theorem TS.assign {x : Str} {p p' : Pos} {e : Expr} {Q : Fl → St → Prop} (k : Stores C x) (h : TE C e (fun v σ1 => Q .next ⟨setL σ1.loc x v, σ1.H⟩) X σ)
    (hs : swapsWith e (some (.Name x p')) p.line C.env = pure false := by rfl) : TS C (.Assign [.Name x p'] e p) Q X σ := fun z₀ => by
  rw [exec_Assign_Name C.env x p' e p hs]
  refine TT.at_ (TT.bind (TT.mono (h z₀) ?_))
  rintro z val σ1 l ⟨v, r, h1⟩
  exact TT.at_ (TT.bind (TT.store k r fun z' l' => TT.pure fun z'' _ => ⟨.next, .next, h1⟩))
theorem TS.aug {x : Str} {p p' : Pos} {op : Operator} {e : Expr} {v : V} {Q : Fl → St → Prop} (k : Stores C x) (hv : σ.loc.lookup x = some v)
    (h : TE C e (fun w σ1 => Inp C op v w (fun u σ2 => Q .next ⟨setL σ2.loc x u, σ2.H⟩) X σ1) X σ) : TS C (.AugAssign (.Name x p') op e p) Q X σ := fun z₀ => by
  rw [exec_AugAssign_Name]
  refine TT.at_ (TT.bind (f := fun old => _) (m := loadName C.env x) ?_)
  intro zs z s hz hR
  have go : ∀ val, Rep z v val → Post C zs z (fun z a σ1 => TT C z (do
      let v ← holding [a] (eval e C.env)
      standAt p
      let new ← operate [a, v] (inplaceOp op a v)
      standAt p'
      bindName C.env x new
      pure Flow.next) (PFl Q) X σ1) val s := by
    intro val r
    refine ⟨z, σ, Z.le_refl _, hR, ?_⟩
    refine TT.bind (TT.holding (TT.mono (h z) ?_))
    rintro z1 w σ1 l1 ⟨vw, rw', h1⟩
    refine TT.at_ (TT.bind (TT.operate (TT.mono (h1 z1 val w (r.mono l1) rw') ?_)))
    rintro z2 u σ2 l2 ⟨vu, ru, h2⟩
    exact TT.at_ (TT.bind (TT.store k ru fun z' l' => TT.pure fun z'' _ => ⟨.next, .next, h2⟩))
  cases k with
  | loc hl =>
    obtain ⟨m, hn, hm⟩ := hR.ns
    obtain ⟨val, e', r⟩ := hm x v hv hl
    exact wpAny_loadName_local C.hk hl hn e' (go val r)
  | cell c hl hc hro =>
    obtain ⟨c', val, e', hc', r⟩ := hR.cells x v hv (by rw [hl]; rfl)
    exact wpAny_loadName_cell C.hk hl e' hc' (go val r)
theorem TSs.weaken {st : List Stmt} {Q : Fl → St → Prop} {σ' : St} (h1 : ∀ x v, σ'.loc.lookup x = some v → σ.loc.lookup x = some v) (h2 : σ'.H.Sublist σ.H) (h : TSs C st Q X σ') : TSs C st Q X σ := fun z₀ => (h z₀).weaken h1 h2
theorem TE.mono {e : Expr} {Q Q' : V → St → Prop} (h : TE C e Q X σ) (k : ∀ f σ, Q f σ → Q' f σ) : TE C e Q' X σ := fun z₀ => (h z₀).mono fun z f σ' _ ⟨fl, r, q⟩ => ⟨fl, r, k _ _ q⟩
theorem TB.mono {e : Expr} {Q Q' : Bool → St → Prop} (h : TB C e Q X σ) (k : ∀ f σ, Q f σ → Q' f σ) : TB C e Q' X σ := fun z₀ => (h z₀).mono fun z f σ' _ q => k _ _ q
end
end PL

end
section
open PySem PySem.Calls PyProof.Rows
set_option Elab.async false
set_option linter.unusedVariables false
set_option linter.unusedSimpArgs false
namespace PL

section
variable {C : Cx} {X : XP} {σ : St} {Q : V → St → Prop} {i j : Int} {b c : Bool}

theorem Bin.add_int (h : Q (.int (i + j)) σ) : Bin C .Add (.int i) (.int j) Q X σ := by
  intro z₀ x0 x1 w0 w1 zs z s hz hR
  have w0q := w0.e; clear w0; obtain ⟨_, rfl⟩ := w0q
  have w1q := w1.e; clear w1; obtain ⟨_, rfl⟩ := w1q
  exact P.add_int (PVal.toks hR (.int _ _) h)
theorem Bin.sub_int (h : Q (.int (i - j)) σ) : Bin C .Sub (.int i) (.int j) Q X σ := by
  intro z₀ x0 x1 w0 w1 zs z s hz hR
  have w0q := w0.e; clear w0; obtain ⟨_, rfl⟩ := w0q
  have w1q := w1.e; clear w1; obtain ⟨_, rfl⟩ := w1q
  exact P.sub_int (PVal.toks hR (.int _ _) h)
theorem Bin.fdiv_int (hj : j ≠ 0) (hp : Builtin.divisionGoesByPylong i j = false) (h : Q (.int (i.fdiv j)) σ) : Bin C .FloorDiv (.int i) (.int j) Q X σ := by
  intro z₀ x0 x1 w0 w1 zs z s hz hR
  have w0q := w0.e; clear w0; obtain ⟨_, rfl⟩ := w0q
  have w1q := w1.e; clear w1; obtain ⟨_, rfl⟩ := w1q
  exact floordiv_int hj (PVal.toks hR (.int _ _) h) (.inl hp)
theorem Bin.mod_int (hj : j ≠ 0) (h : Q (.int (i.fmod j)) σ) : Bin C .Mod (.int i) (.int j) Q X σ := by
  intro z₀ x0 x1 w0 w1 zs z s hz hR
  have w0q := w0.e; clear w0; obtain ⟨_, rfl⟩ := w0q
  have w1q := w1.e; clear w1; obtain ⟨_, rfl⟩ := w1q
  exact mod_int' hj (PVal.toks hR (.int _ _) h)
theorem Inp.add_int (h : Q (.int (i + j)) σ) : Inp C .Add (.int i) (.int j) Q X σ := by
  intro z₀ x0 x1 w0 w1 zs z s hz hR
  have w0q := w0.e; clear w0; obtain ⟨_, rfl⟩ := w0q
  have w1q := w1.e; clear w1; obtain ⟨_, rfl⟩ := w1q
  exact P.iadd_int (PVal.toks hR (.int _ _) h)
theorem Un.neg_int (h : Q (.int (-i)) σ) : Un C .USub (.int i) Q X σ := by
  intro z₀ x0 w0 zs z s hz hR
  have w0q := w0.e; clear w0; obtain ⟨_, rfl⟩ := w0q
  exact P.neg_int (PVal.toks hR (.int _ _) h)
theorem Cmp.eq_int (h : Q (.bool (i == j)) σ) : Cmp C .Eq (.int i) (.int j) Q X σ := by
  intro z₀ x0 x1 w0 w1 zs z s hz hR
  have w0q := w0.e; clear w0; obtain ⟨_, rfl⟩ := w0q
  have w1q := w1.e; clear w1; obtain ⟨_, rfl⟩ := w1q
  exact P.eq_int (PVal.same hR (.bool _) h)
theorem Cmp.lt_int (h : Q (.bool (decide (i < j))) σ) : Cmp C .Lt (.int i) (.int j) Q X σ := by
  intro z₀ x0 x1 w0 w1 zs z s hz hR
  have w0q := w0.e; clear w0; obtain ⟨_, rfl⟩ := w0q
  have w1q := w1.e; clear w1; obtain ⟨_, rfl⟩ := w1q
  exact P.lt_int (PVal.same hR (.bool _) h)
theorem Cmp.gt_int (h : Q (.bool (decide (i > j))) σ) : Cmp C .Gt (.int i) (.int j) Q X σ := by
  intro z₀ x0 x1 w0 w1 zs z s hz hR
  have w0q := w0.e; clear w0; obtain ⟨_, rfl⟩ := w0q
  have w1q := w1.e; clear w1; obtain ⟨_, rfl⟩ := w1q
  exact P.gt_int (PVal.same hR (.bool _) h)
theorem ofNat_inj {a b : Nat} (ha : a < 256) (hb : b < 256) (h : UInt8.ofNat a = UInt8.ofNat b) : a = b := by
  have := congrArg UInt8.toNat h
  simp only [UInt8.toNat_ofNat'] at this
  (clear h; (first | lia | omega))
theorem map_ofNat_inj : ∀ {l m : List Nat}, (∀ c ∈ l, c < 256) → (∀ c ∈ m, c < 256) → l.map UInt8.ofNat = m.map UInt8.ofNat → l = m
  | [], [], _, _, _ => rfl
  | [], _ :: _, _, _, h => by simp at h
  | _ :: _, [], _, _, h => by simp at h
  | a :: l, b :: m, hl, hm, h => by
    rw [List.map_cons, List.map_cons, List.cons.injEq] at h
    rw [ofNat_inj (hl a List.mem_cons_self) (hm b List.mem_cons_self) h.1, map_ofNat_inj (fun c hc => hl c (List.mem_cons_of_mem _ hc)) (fun c hc => hm c (List.mem_cons_of_mem _ hc)) h.2]
theorem beq_ofNat {l m : List Nat} (hl : ∀ c ∈ l, c < 256) (hm : ∀ c ∈ m, c < 256) : ((l.map UInt8.ofNat) == (m.map UInt8.ofNat)) = (l == m) := by
  rw [Bool.eq_iff_iff, beq_iff_eq, beq_iff_eq]
  exact ⟨map_ofNat_inj hl hm, fun e => by rw [e]⟩

variable {o : Bool} {l m : List Nat}
theorem Cmp.eq_txt (h : Q (.bool (l == m)) σ) : Cmp C .Eq (.txt o l) (.txt o m) Q X σ := by
  intro z₀ x y rx ry zs z s hz hR
  have rxq := rx.txt_; clear rx; rcases rxq with ⟨rfl, t, rfl⟩ | ⟨rfl, t, rfl, hl⟩
  · have ryq := ry.e; clear ry; obtain ⟨u, rfl⟩ := ryq
    exact P.eq_str (PVal.same hR (.bool _) h)
  · have ryq := ry.e; clear ry; obtain ⟨u, rfl, hm⟩ := ryq
    refine PySem.W.eq_bytes ?_
    rw [List.toList_toArray, List.toList_toArray, beq_ofNat hl hm]
    exact PVal.same hR (.bool _) h
theorem Cmp.ne_txt (h : Q (.bool (l != m)) σ) : Cmp C .NotEq (.txt o l) (.txt o m) Q X σ := by
  intro z₀ x y rx ry zs z s hz hR
  have rxq := rx.txt_; clear rx; rcases rxq with ⟨rfl, t, rfl⟩ | ⟨rfl, t, rfl, hl⟩
  · have ryq := ry.e; clear ry; obtain ⟨u, rfl⟩ := ryq
    exact P.ne_str (PVal.same hR (.bool _) h)
  · have ryq := ry.e; clear ry; obtain ⟨u, rfl, hm⟩ := ryq
    refine PySem.W.ne_bytes ?_
    rw [List.toList_toArray, List.toList_toArray, bne, beq_ofNat hl hm]
    exact PVal.same hR (.bool _) h

/-! truth -/
variable {QB : Bool → St → Prop}
theorem Tru.bool (h : QB b σ) : Tru C (.bool b) QB X σ := by
  intro z₀ x0 w0 zs z s hz hR
  have w0q := w0.e; clear w0; obtain ⟨_, rfl⟩ := w0q
  exact wpAny_truthy_bool ⟨z, σ, Z.le_refl _, hR, h⟩
theorem Tru.none (h : QB false σ) : Tru C .none QB X σ := by
  intro z₀ x0 w0 zs z s hz hR
  have w0q := w0.e; clear w0; obtain ⟨_, rfl⟩ := w0q
  exact truthy_none ⟨z, σ, Z.le_refl _, hR, h⟩
theorem len_ne0 {α : Type} (l : List α) : ((l.length : Int) != 0) = !l.isEmpty := by cases l <;> simp [bne] <;> (first | lia | omega)
theorem Tru.txt (hn : l.length ≤ 16777216) (h : QB (!l.isEmpty) σ) : Tru C (.txt o l) QB X σ := by
  intro z₀ x r zs z s hz hR
  rw [← len_ne0] at h
  have rq := r.txt_; clear r; rcases rq with ⟨rfl, t, rfl⟩ | ⟨rfl, t, rfl, hl⟩
  · exact P.truthy_str (x := ⟨l.toArray⟩) (by simp [Str.length]; (clear t hR hz s z zs z₀ h QB σ X C; (first | lia | omega))) ⟨z, σ, Z.le_refl _, hR.toks _, by simpa [Str.length] using h⟩
  · exact PySem.W.truthy_bytes (by simp; (clear hl t hR hz s z zs z₀ h QB σ X C; (first | lia | omega))) ⟨z, σ, Z.le_refl _, hR.toks _, by simpa using h⟩

theorem rep_tupO {z : Z} {vs : List V} {x : Value} (r : Rep z (.tup vs) x) {zs : Z} {s : Shared} (hR : R C zs σ z s) : ∃ a items n, x = .ref a ∧ s.heap.get? a = some (tupO items n) ∧ RepL z vs items := by
  have rq := r.e; clear r; obtain ⟨_, _, _, rfl, e, hr⟩ := rq
  exact ⟨_, _, _, rfl, hR.rh.hz _ _ e, hr⟩
theorem rep_isTup {z : Z} {vs : List V} {x : Value} (r : Rep z (.tup vs) x) {zs : Z} {s : Shared} (hR : R C zs σ z s) : ∃ a items, x = .ref a ∧ IsTup s.heap a items.toArray ∧ RepL z vs items :=
  let ⟨a, items, n, e, h, q⟩ := rep_tupO r hR; ⟨a, items, e, ⟨_, h, rfl, _, rfl⟩, q⟩

/-- a list that can be read: frozen, or on the ledger -/
inductive IsL (σ : St) : V → List V → Prop
  | fz (vs : List V) : IsL σ (.lst vs) vs
  | mt {a : Addr} {vs : List V} (h : (a, AO.list vs) ∈ σ.H) : IsL σ (.ref a) vs
theorem IsL.obj {v : V} {vs : List V} (k : IsL σ v vs) {z₀ z zs : Z} {s : Shared} {x : Value} (r : Rep z₀ v x) (hz : Z.le z₀ z) (hR : R C zs σ z s) :
    ∃ a items n, x = .ref a ∧ s.heap.get? a = some (lstO items n) ∧ RepL z vs items := by
  cases k with
  | fz =>
    have rq := r.e; clear r; obtain ⟨_, _, _, rfl, e, hr⟩ := rq
    exact ⟨_, _, _, rfl, hR.rh.hz _ _ (hz _ _ e), hr.mono hz⟩
  | mt hm =>
    have rq := r.e; clear r; obtain ⟨_, rfl⟩ := rq
    obtain ⟨⟨items, n, p, q⟩, _⟩ := hR.rh.hH _ hm
    exact ⟨_, items, n, rfl, p, q⟩
theorem IsL.at {v : V} {vs : List V} (k : IsL σ v vs) {z₀ z zs : Z} {s : Shared} {x : Value} (r : Rep z₀ v x) (hz : Z.le z₀ z) (hR : R C zs σ z s) :
    ∃ a items, x = .ref a ∧ s.heap.IsList a (items : List Value).toArray ∧ RepL z vs items :=
  let ⟨a, items, n, e, h, q⟩ := k.obj r hz hR; ⟨a, items, e, ⟨_, h, rfl, _, rfl⟩, q⟩

theorem Tru.list {v : V} {vs : List V} (k : IsL σ v vs) (hn : vs.length ≤ 16777216) (h : QB (!vs.isEmpty) σ) : Tru C v QB X σ := by
  intro z₀ x r zs z s hz hR
  obtain ⟨a, items, rfl, p, q⟩ := k.at r hz hR
  refine wpAny_truthy_list p (by rw [List.size_toArray, q.length]; (clear q p r items a hR hz s z zs z₀ h k v; (first | lia | omega))) ⟨z, σ, Z.le_refl _, hR.toks _, ?_⟩
  have : items.toArray.isEmpty = vs.isEmpty := by
    rw [List.isEmpty_toArray]
    have := q.length
    cases items <;> cases vs <;> simp_all
  rw [this]; exact h
theorem Tru.tup {vs : List V} (hn : vs.length ≤ 16777216) (h : QB (!vs.isEmpty) σ) : Tru C (.tup vs) QB X σ := by
  intro z₀ x r zs z s hz hR
  obtain ⟨a, items, rfl, p, q⟩ := rep_isTup (r.mono hz) hR
  refine truthy_tuple p (by rw [List.size_toArray, q.length]; (clear q p r items a hR hz s z zs z₀ h; (first | lia | omega))) ⟨z, σ, Z.le_refl _, hR.toks _, ?_⟩
  have : items.toArray.isEmpty = vs.isEmpty := by
    rw [List.isEmpty_toArray]
    have := q.length
    cases items <;> cases vs <;> simp_all
  rw [this]; exact h
end
end PL

end
section
open PySem PySem.Calls PyProof.Rows
set_option Elab.async false
set_option linter.unusedVariables false
set_option linter.unusedSimpArgs false
namespace PL

/-! plain functions on texts -/
noncomputable def sl {α : Type} (l : List α) (lo hi : Option Int) : List α := (l.drop (lo.elim 0 (clipAt l.length))).take (hi.elim l.length (clipAt l.length) - lo.elim 0 (clipAt l.length))

/-- the place behind the last `c`, 0 where there is none -/
noncomputable def cut (c : Nat) : List Nat → Nat
  | [] => 0
  | x :: r => if cut c r ≠ 0 then cut c r + 1 else if x = c then 1 else 0
noncomputable def splitS (c : Nat) : List Nat → List (List Nat)
  | [] => [[]]
  | x :: r => if x = c then [] :: splitS c r else match splitS c r with
    | [] => [[x]]
    | p :: ps => (x :: p) :: ps
noncomputable def joinS (sep : List Nat) : List (List Nat) → List Nat
  | [] => []
  | [p] => p
  | p :: q :: r => p ++ sep ++ joinS sep (q :: r)
noncomputable def rstripS (c : Nat) (l : List Nat) : List Nat := (l.reverse.dropWhile (· == c)).reverse

theorem cut_spec (c : Nat) : ∀ l : List Nat, (cut c l = 0 ∧ ∀ i : Nat, l[i]? ≠ some c) ∨ ∃ k : Nat, cut c l = k + 1 ∧ l[k]? = some c ∧ ∀ j, k < j → l[j]? ≠ some c
  | [] => .inl ⟨rfl, fun i => by simp⟩
  | x :: r => by
    unfold cut
    rcases cut_spec c r with ⟨h0, h⟩ | ⟨k, h0, h1, h2⟩
    · rw [if_neg (by simp [h0])]
      by_cases hx : x = c
      · rw [if_pos hx]
        refine .inr ⟨0, rfl, by simp [hx], fun j hj => ?_⟩
        cases j with
        | zero => (clear hx h h0; (first | lia | omega))
        | succ j => simpa using h j
      · rw [if_neg hx]
        refine .inl ⟨rfl, fun i => ?_⟩
        cases i with
        | zero => simpa using hx
        | succ j => simpa using h j
    · rw [if_pos (by (clear h2 h1 x; (first | lia | omega))), h0]
      refine .inr ⟨k + 1, rfl, by simpa using h1, fun j hj => ?_⟩
      cases j with
      | zero => (clear h2 h1 h0; (first | lia | omega))
      | succ j => simpa using h2 j (by (clear h2 h1 h0 x r c; (first | lia | omega)))
theorem cut_le (c : Nat) : ∀ l : List Nat, cut c l ≤ l.length
  | [] => Nat.le_refl _
  | x :: r => by
    have := cut_le c r
    unfold cut
    (repeat' split) <;> simp <;> (clear x; (first | lia | omega))

theorem splitS_ne (c : Nat) : ∀ l, splitS c l ≠ []
  | [] => by simp [splitS]
  | x :: r => by
    unfold splitS
    split
    · simp
    · split <;> simp
/-- the parts are told by what they are -/
theorem splitS_join (c : Nat) : ∀ (ps : List (List Nat)), ps ≠ [] → (∀ p ∈ ps, c ∉ p) → splitS c (joinS [c] ps) = ps
  | [], h, _ => absurd rfl h
  | [p], hn, h => by
    have hp := h p (by simp)
    show splitS c p = [p]
    clear h hn
    induction p with
    | nil => rfl
    | cons x r ih =>
      rw [List.mem_cons, not_or] at hp
      unfold splitS
      rw [if_neg (Ne.symm hp.1), ih hp.2]
  | p :: q :: r, hn, h => by
    have ih := splitS_join c (q :: r) (by simp) fun x hx => h x (List.mem_cons_of_mem _ hx)
    have hp := h p (by simp)
    show splitS c (p ++ [c] ++ joinS [c] (q :: r)) = _
    rw [List.append_assoc]
    clear h hn
    induction p with
    | nil => simp only [List.nil_append, List.cons_append]; unfold splitS; rw [if_pos rfl, ih]
    | cons x s ih2 =>
      rw [List.mem_cons, not_or] at hp
      rw [List.cons_append]
      unfold splitS
      rw [if_neg (Ne.symm hp.1), ih2 hp.2]

section
open Builtin Builtin.Str
theorem at_one (l : List Nat) (c i : Nat) : StrLaws.At ⟨l.toArray⟩ ⟨#[c]⟩ (⟨l.toArray⟩ : Str).length i ↔ l[i]? = some c := by
  have := StrLaws.subAt_one ⟨l.toArray⟩ c i
  simpa [StrLaws.At] using this
theorem str_rfind (l : List Nat) (c : Nat) : Txt.rfind ⟨l.toArray⟩ ⟨#[c]⟩ = (cut c l : Int) - 1 := by
  rcases rfind_whole ⟨l.toArray⟩ ⟨#[c]⟩ with ⟨h, n⟩ | ⟨i, h, hat, n⟩
  · rw [h]
    rcases cut_spec c l with ⟨h0, _⟩ | ⟨k, h0, h1, _⟩
    · rw [h0]; rfl
    · exact absurd ((at_one l c k).mpr h1) (n k)
  · rw [h]
    have hi := (at_one l c i).mp hat
    rcases cut_spec c l with ⟨h0, h1⟩ | ⟨k, h0, h1, h2⟩
    · exact absurd hi (h1 i)
    · rw [h0]
      have a : ¬ i < k := fun q => n k q ((at_one l c k).mpr h1)
      have b : ¬ k < i := fun q => h2 i q hi
      have : i = k := by (clear h2 h1 h0 hi n hat h c l; (first | lia | omega))
      subst this
      (clear b a h2 h1 h0 hi n hat h c l; (first | lia | omega))
theorem str_join (sep : List Nat) : ∀ ps : List (List Nat), Str.join (strOf sep) (ps.map strOf) = strOf (joinS sep ps)
  | [] => rfl
  | [p] => rfl
  | p :: q :: r => by
    have ih := str_join sep (q :: r)
    show strOf p ++ strOf sep ++ Str.join (strOf sep) ((q :: r).map strOf) = _
    rw [ih]
    apply Str.ext'
    simp [Str.cps_append, strOf, joinS]
theorem strOf_list (x : Str) : strOf x.cps.toList = x := by simp [strOf]
theorem str_split (l : List Nat) (c : Nat) : Txt.split ⟨l.toArray⟩ ⟨#[c]⟩ = (splitS c l).map strOf := by
  let ps := (Txt.split ⟨l.toArray⟩ ⟨#[c]⟩).map fun p => p.cps.toList
  have hps : ps.map strOf = Txt.split ⟨l.toArray⟩ ⟨#[c]⟩ := by
    simp only [ps, List.map_map]
    conv => rhs; rw [← List.map_id (Txt.split ⟨l.toArray⟩ ⟨#[c]⟩)]
    apply List.map_congr_left
    intro p _
    exact strOf_list p
  have hj := StrLaws.join_split ⟨l.toArray⟩ ⟨#[c]⟩
  rw [← hps] at hj
  have hj2 : joinS [c] ps = l := by
    have := str_join [c] ps
    rw [show strOf [c] = ⟨#[c]⟩ from rfl, hj] at this
    have := congrArg (fun s => s.cps.toList) this
    simpa [strOf] using this.symm
  have hfree : ∀ p ∈ ps, c ∉ p := by
    intro p hp
    obtain ⟨q, hq, rfl⟩ := List.mem_map.mp hp
    exact StrLaws.split_free ⟨l.toArray⟩ c q hq
  by_cases hne : ps = []
  · exfalso
    have h0 : Txt.split ⟨l.toArray⟩ ⟨#[c]⟩ = [] := by
      have := congrArg List.length hne
      simpa [ps] using this
    unfold Txt.split at h0
    split at h0
    · cases h0
    · split at h0
      · cases h0
      · rw [StrLaws.partsBetween_eq] at h0
        obtain ⟨p, r, e⟩ := StrLaws.partsFrom_ne ⟨l.toArray⟩ (⟨#[c]⟩ : Str).length 0 (occurrences ⟨l.toArray⟩ ⟨#[c]⟩ 0 (⟨l.toArray⟩ : Str).length ((⟨l.toArray⟩ : Str).length + 1))
        rw [e] at h0
        cases h0
  · rw [← hps, ← splitS_join c ps hne hfree, hj2]
end
end PL

end
section
open PySem PySem.Calls PyProof.Rows
set_option Elab.async false
set_option linter.unusedVariables false
set_option linter.unusedSimpArgs false
namespace PL

/-! subscripts -/
section
variable {C : Cx} {X : XP} {σ : St} {Q : V → St → Prop}

noncomputable def Item (C : Cx) (o i : V) (Q : V → St → Prop) (X : XP) (σ : St) : Prop := ∀ value slice z₀ x y, Rep z₀ o x → Rep z₀ i y → TT C z₀ (subscriptTail value slice x y) (PVal Q) X σ
theorem subscripted_ops (slice : Expr) (x y : Value) : ∃ ops, subscripted slice false x y = operate ops (getItem x y) := by
  cases slice with
  | Slice l u s p => cases s <;> exact ⟨_, rfl⟩
  | _ => exact ⟨_, rfl⟩
theorem TE.sub {value slice : Expr} {pos : Pos} (h : TE C value (fun o σ1 => TE C slice (fun i σ2 => Item C o i Q X σ2) X σ1) X σ) : TE C (.Subscript value slice pos) Q X σ := by
  intro z₀
  have e : eval (.Subscript value slice pos) C.env = (do let o ← eval value C.env; let i ← holding [o] (eval slice C.env); standAt pos; subscriptTail value slice o i) := by rw [eval_Subscript]; rfl
  rw [e]
  refine TT.bind (TT.mono (h z₀) ?_)
  rintro z a σ1 l1 ⟨va, ra, h1⟩
  refine TT.bind (TT.holding (TT.mono (h1 z) ?_))
  rintro z' b σ2 l2 ⟨vb, rb, h2⟩
  exact TT.at_ (h2 value slice z' a b (ra.mono l2) rb)

theorem tail_of {M : Model} {A : Around} {E : Value → Shared → Prop} {s : Shared} {value slice : Expr} {o i : Value} {T id : String} {Q : Value → Shared → Prop} (hT : s.TypeIs o T)
    (hl : typeLookup (.type T) "__getitem__" = pure (some (.builtin id))) {prog : Program} {w : World} (hM : M = model prog w) (hg : wpAny M A (getItem o i) Q E s) : wpAny M A (subscriptTail value slice o i) Q E s := by
  obtain ⟨ops, hs⟩ := subscripted_ops slice o i
  subst hM
  exact tail_any hT hl hg hs

theorem seqIndex_ok {k : Int} {n j : Nat} (h : (if k < 0 then k + n else k) = (j : Int)) (hj : j < n) : seqIndex? k n = some j := by
  unfold seqIndex?
  by_cases hk : k < 0
  · simp only [hk, if_true] at h ⊢
    rw [h]; simp [hj]
  · simp only [hk, if_false] at h ⊢
    rw [h]; simp [hj]

/-- which place an index tells -/
noncomputable def At (k : Int) (n j : Nat) : Prop := (if k < 0 then k + n else k) = (j : Int) ∧ j < n

theorem Item.list {v : V} {vs : List V} {k : Int} {j : Nat} {u : V} (hl : IsL σ v vs) (hn : vs.length ≤ 16777216) (ha : At k vs.length j) (hu : vs[j]? = some u) (h : Q u σ) : Item C v (.int k) Q X σ := by
  intro value slice z₀ x x0 rx w0 zs z s hz hR
  have w0q := w0.e; clear w0; obtain ⟨_, rfl⟩ := w0q
  obtain ⟨a, items, rfl, p, q⟩ := hl.at rx hz hR
  obtain ⟨xv, hx, r⟩ := q.get hu
  obtain ⟨h1, h2⟩ := ha
  have hlen := q.length
  refine tail_of p.typeIs slot_list_getitem.lookup rfl ?_
  by_cases hk : k < 0
  · rw [if_pos hk] at h1
    refine wpAny_getItem_list_neg p hk (by rw [List.size_toArray, hlen]; (clear hk hlen h2 r hx xv q p rx a hR hz s z zs z₀ slice value h hu hn hl u v items; (first | lia | omega))) (by (clear hk h2 r hx xv q p rx a hR hz s z zs z₀ slice value h hu hl u v hlen items; (first | lia | omega))) (x := xv) ?_ (PVal.same hR r h)
    rw [List.size_toArray, hlen, h1]; simpa using hx
  · rw [if_neg hk] at h1
    refine wpAny_getItem_list p (by (clear hk hlen h2 r hx xv q p rx a hR hz s z zs z₀ slice value h hu hn hl u v items vs; (first | lia | omega))) (by (clear hk r hx xv q p rx a hR hz s z zs z₀ slice value h hu hl u v hlen items; (first | lia | omega))) (x := xv) ?_ (PVal.same hR r h)
    rw [h1]; simpa using hx
theorem Item.tup {vs : List V} {k : Int} {j : Nat} {u : V} (hn : vs.length ≤ 16777216) (ha : At k vs.length j) (hu : vs[j]? = some u) (h : Q u σ) : Item C (.tup vs) (.int k) Q X σ := by
  intro value slice z₀ x x0 rx w0 zs z s hz hR
  have w0q := w0.e; clear w0; obtain ⟨_, rfl⟩ := w0q
  obtain ⟨a, items, rfl, p, q⟩ := rep_isTup (rx.mono hz) hR
  obtain ⟨xv, hx, r⟩ := q.get hu
  obtain ⟨h1, h2⟩ := ha
  have hlen := q.length
  have hT : s.TypeIs (.ref a) "tuple" := let ⟨o, ho, hc, _⟩ := p; ⟨o, ho, hc⟩
  refine tail_of hT PySem.F.slot_tuple_getitem.lookup rfl ?_
  refine getItem_tuple p (j := j) (x := xv) ?_ ?_ ?_ (by simpa using hx) (PVal.same hR r h)
  · by_cases hk : k < 0
    · rw [if_pos hk] at h1; (clear hk hT h2 r hx xv q p rx a hR hz s z zs z₀ slice value h hu u hlen items; (first | lia | omega))
    · rw [if_neg hk] at h1; (clear hk hT hlen h2 r hx xv q p rx a hR hz s z zs z₀ slice value h hu hn u items vs; (first | lia | omega))
  · by_cases hk : k < 0
    · (clear hT hlen h2 h1 r hx xv q p rx a hR hz s z zs z₀ slice value h hu hn u items j vs; (first | lia | omega))
    · rw [if_neg hk] at h1; (clear hk hT r hx xv q p rx a hR hz s z zs z₀ slice value h hu u hlen items; (first | lia | omega))
  · rw [List.size_toArray, hlen]; exact seqIndex_ok h1 h2
theorem Item.str {l : List Nat} {k : Int} {j c : Nat} (hn : l.length ≤ 16777216) (ha : At k l.length j) (hu : l[j]? = some c) (h : Q (.txt false [c]) σ) : Item C (.txt false l) (.int k) Q X σ := by
  intro value slice z₀ x x0 rx w0 zs z s hz hR
  have w0q := w0.e; clear w0; obtain ⟨_, rfl⟩ := w0q
  have rxq := rx.e; clear rx; obtain ⟨t, rfl⟩ := rxq
  obtain ⟨h1, h2⟩ := ha
  refine tail_of (typeIs_str _ _ _) PySem.F.slot_str_getitem.lookup rfl ?_
  refine P.getItem_str (c := c) ?_ ?_ (PVal.toks hR (.str [c] _) h)
  · by_cases hk : k < 0
    · rw [if_pos hk] at h1; simp; (clear t hR hz s z zs z₀ slice value h hu c hk; (first | lia | omega))
    · rw [if_neg hk] at h1; simp; (clear hk t hR hz s z zs z₀ slice value h hu c; (first | lia | omega))
  · have : seqIndex? k (⟨l.toArray⟩ : Str).length = some j := by
      show seqIndex? k l.toArray.size = some j
      rw [List.size_toArray]; exact seqIndex_ok h1 h2
    rw [this]; simpa using hu
/-! slices -/
noncomputable def Slc (C : Cx) (o : V) (lo hi st : Option Int) (Q : V → St → Prop) (X : XP) (σ : St) : Prop :=
  ∀ value slice zs z s x a l u w, R C zs σ z s → Rep z o x → s.heap.IsSliceOf a l u w → IsPart l lo → IsPart u hi → IsPart w st →
    wpAny C.M C.A (subscriptTail value slice x (.ref a)) (Post C zs z (PVal Q)) (PX C zs z X) s
/-- a part of a slice -/
noncomputable def TOpt (C : Cx) (e : Option Expr) (Q : Option Int → St → Prop) (X : XP) (σ : St) : Prop :=
  ∀ z₀, TT C z₀ (evalPart e C.env) (fun z x σ' => ∃ i, IsPart x i ∧ Q i σ') X σ
theorem TOpt.none {Q : Option Int → St → Prop} (h : Q none σ) : TOpt C none Q X σ := fun z₀ => TT.eq (evalPart_none _) fun z _ => ⟨_, .none, h⟩
theorem TOpt.some {e : Expr} {Q : Option Int → St → Prop} (h : TE C e (fun v σ' => ∃ i, v = .int i ∧ Q (some i) σ') X σ) : TOpt C (some e) Q X σ := by
  intro z₀
  show TT C z₀ (eval e C.env) _ X σ
  refine TT.mono (h z₀) ?_
  rintro z x σ' l ⟨v, r, i, rfl, q⟩
  have rq := r.e; clear r; obtain ⟨t, rfl⟩ := rq
  exact ⟨_, .int i t, q⟩
theorem TE.subsl {value : Expr} {lo hi st : Option Expr} {p pos : Pos}
    (h : TE C value (fun o σ1 => TOpt C lo (fun a σ2 => TOpt C hi (fun b σ3 => TOpt C st (fun c σ4 => Slc C o a b c Q X σ4) X σ3) X σ2) X σ1) X σ) : TE C (.Subscript value (.Slice lo hi st p) pos) Q X σ := by
  intro z₀ zs z s hz hR
  refine Subscript_ (wpAny_mono (h z₀ zs z s hz hR) ?_ fun _ _ x => x)
  rintro o s1 ⟨z1, σ1, l1, R1, v, ro, h1⟩
  refine wpAny_Slice (wpAny_mono (h1 z1 zs z1 s1 (Z.le_refl _) R1) ?_ fun _ _ x => PX.le l1 x)
  rintro lv s2 ⟨z2, σ2, l2, R2, a, pa, h2⟩
  refine wpAny_mono (h2 z2 zs z2 s2 (Z.le_refl _) R2) ?_ fun _ _ x => PX.le (Z.le_trans l1 l2) x
  rintro uv s3 ⟨z3, σ3, l3, R3, b, pb, h3⟩
  refine wpAny_mono (h3 z3 zs z3 s3 (Z.le_refl _) R3) ?_ fun _ _ x => PX.le (Z.le_trans (Z.le_trans l1 l2) l3) x
  rintro wv s4 ⟨z4, σ4, l4, R4, c, pc, h4⟩
  have ll := Z.le_trans (Z.le_trans (Z.le_trans l1 l2) l3) l4
  refine wpAny_mono (h4 value (.Slice lo hi st p) zs z4 _ o s4.heap.objs.size lv uv wv (R4.push' _) (ro.mono (Z.le_trans (Z.le_trans l2 l3) l4)) (Heap.IsSliceOf.new ..) pa pb pc) ?_ fun _ _ x => PX.le ll x
  rintro r s5 ⟨z5, σ5, l5, R5, q⟩
  exact ⟨z5, σ5, Z.le_trans ll l5, R5, q⟩

/-- the places of a slice with a step -/
noncomputable def pick {α : Type} (l : List α) (lo hi st : Option Int) : List α :=
  (sliceRange (sliceBounds lo hi st l.length).1 (sliceBounds lo hi st l.length).2.1 (sliceBounds lo hi st l.length).2.2).filterMap (l[·]?)
theorem pick_plain {α : Type} (l : List α) (lo hi : Option Int) : pick l lo hi none = sl l lo hi := by
  unfold pick sl
  rw [sliceBounds_plain]
  have := sliceRange_one (lo.elim 0 (clipAt l.length)) (hi.elim l.length (clipAt l.length))
  simp only [this]
  have h := pick_run l.toArray (lo.elim 0 (clipAt l.length)) (hi.elim l.length (clipAt l.length) - lo.elim 0 (clipAt l.length))
  simpa using h
theorem RepL.pick {z : Z} {vs : List V} {xs : List Value} (r : RepL z vs xs) : ∀ idx : List Nat, RepL z (idx.filterMap (vs[·]?)) (idx.filterMap (xs[·]?))
  | [] => .nil
  | i :: idx => by
    have ih := r.pick idx
    cases h : vs[i]? with
    | none =>
      have hx : xs[i]? = none := by
        rw [List.getElem?_eq_none_iff] at h ⊢
        rw [r.length]; exact h
      simpa [List.filterMap_cons, h, hx] using ih
    | some v =>
      obtain ⟨x, hx, rx⟩ := r.get h
      simpa [List.filterMap_cons, h, hx] using RepL.cons rx ih
theorem Slc.list {v : V} {vs : List V} {lo hi st : Option Int} (hl : IsL σ v vs) (hn : vs.length ≤ 16777216) (h0 : st ≠ some 0) (h : Q (.lst (pick vs lo hi st)) σ) : Slc C v lo hi st Q X σ := by
  intro value slice zs z s x a l u w hR rx hs pl pu pw
  obtain ⟨b, items, rfl, p, q⟩ := hl.at rx (Z.le_refl _) hR
  refine tail_of p.typeIs slot_list_getitem.lookup rfl ?_
  have hlen := q.length
  refine wpAny_getItem_list_slice p hs pl pu pw h0 ?_ (by rw [List.size_toArray, hlen]; exact size_ok hn)
  obtain ⟨R', le⟩ := hR.frozen { cls := .type "list", data := .seq (slicePick items.toArray lo hi st) } s.toks
  have hq := q.pick (sliceRange (sliceBounds lo hi st vs.length).1 (sliceBounds lo hi st vs.length).2.1 (sliceBounds lo hi st vs.length).2.2)
  refine ⟨_, _, le, R', _, .lst (n := 0) (items := (sliceRange (sliceBounds lo hi st vs.length).1 (sliceBounds lo hi st vs.length).2.1 (sliceBounds lo hi st vs.length).2.2).filterMap (items[·]?)) ?_ (hq.mono le), h⟩
  rw [put_self]
  unfold slicePick
  rw [List.size_toArray, hlen]
  simp

theorem part_of {x : Value} {i : Option Int} (p : IsPart x i) : ∃ k : Option (Int × Tok), x = partValue k ∧ k.map (·.1) = i := by
  cases p with
  | none => exact ⟨none, rfl, rfl⟩
  | int i t => exact ⟨some (i, t), rfl, rfl⟩
theorem strIdx (lo hi : Option Int) (n : Nat) : Builtin.Str.strSliceIndices lo hi 1 n = sliceRange (sliceBounds lo hi none n).1 (sliceBounds lo hi none n).2.1 (sliceBounds lo hi none n).2.2 := by
  unfold Builtin.Str.strSliceIndices sliceBounds
  rfl
theorem sl_length_le {α : Type} (l : List α) (lo hi : Option Int) : (sl l lo hi).length ≤ l.length := by
  unfold sl; simp; (first | lia | omega)
theorem sl_whole {α : Type} {l : List α} {lo hi : Option Int} (h : (sl l lo hi).length = l.length) : sl l lo hi = l := by
  unfold sl at h ⊢
  rw [List.length_take, List.length_drop] at h
  by_cases e : lo.elim 0 (clipAt l.length) = 0
  · rw [e] at h ⊢
    rw [List.drop_zero, List.take_of_length_le (by (clear e lo; (first | lia | omega)))]
  · have : l.length = 0 := by (first | lia | omega)
    have : l = [] := List.length_eq_zero_iff.mp this
    subst this; simp
theorem Slc.str {l : List Nat} {lo hi : Option Int} (hn : l.length ≤ 16777216) (h : Q (.txt false (sl l lo hi)) σ) : Slc C (.txt false l) lo hi none Q X σ := by
  intro value slice zs z s x a lv uv wv hR rx hs pl pu pw
  have rxq := rx.e; clear rx; obtain ⟨t, rfl⟩ := rxq
  obtain ⟨kl, rfl, el⟩ := part_of pl
  obtain ⟨ku, rfl, eu⟩ := part_of pu
  cases pw
  refine tail_of (typeIs_str _ _ _) PySem.F.slot_str_getitem.lookup rfl ?_
  refine wpAny_getItem_str_slice (l := kl) (u := ku) (st := none) hs rfl ?_
  unfold sliceMade slicePicked
  rw [el, eu]
  have e : (Builtin.Str.strSliceIndices lo hi 1 (⟨l.toArray⟩ : Str).length).filterMap ((⟨l.toArray⟩ : Str).cps[·]?) = sl l lo hi := by
    rw [strIdx, ← pick_plain]
    unfold pick
    simp [Str.length]
  split
  · rename_i hc
    have hlen : (sl l lo hi).length = l.length := by
      rw [← e]
      simp only [Option.map_none, Option.getD_none, Bool.and_eq_true, beq_iff_eq] at hc
      have h2 := hc.2
      refine Nat.le_antisymm (Nat.le_trans (List.length_filterMap_le _ _) (by rw [h2]; simp [Str.length])) ?_
      rw [e]
      -- every place is met
      have h3 : (Builtin.Str.strSliceIndices lo hi 1 (⟨l.toArray⟩ : Str).length).length = (hi.elim l.length (clipAt l.length) - lo.elim 0 (clipAt l.length)) := by
        rw [strIdx, sliceBounds_plain]
        have := sliceRange_one (lo.elim 0 (clipAt l.length)) (hi.elim l.length (clipAt l.length))
        show (sliceRange ((lo.elim 0 (clipAt l.length) : Nat) : Int) ((hi.elim l.length (clipAt l.length) : Nat) : Int) 1).length = _
        rw [this]; simp
      rw [h3] at h2
      unfold sl
      rw [List.length_take, List.length_drop]
      have : (⟨l.toArray⟩ : Str).length = l.length := by simp [Str.length]
      have hcl : hi.elim l.length (clipAt l.length) ≤ l.length := by
        cases hi with
        | none => exact Nat.le_refl _
        | some i =>
          have := clipAt_cast l.length i
          show clipAt l.length i ≤ l.length
          (clear h3 e pu eu h hs ku pl el kl t hR a s z zs slice value h2 hc hn lo; (first | lia | omega))
      (clear h3 hc e hs pu eu ku pl el kl t hR a s z zs slice value h hn; (first | lia | omega))
    rw [sl_whole hlen] at h
    exact PVal.same hR (.str _ t) h
  · refine ⟨?_, ?_⟩
    · show (List.filterMap _ _).toArray.size ≤ sizeLine
      rw [List.size_toArray]
      have := sl_length_le l lo hi
      rw [← e] at this
      exact size_ok (Nat.le_trans this hn)
    · have e2 := e
      simp only [Option.map_none, Option.getD_none] at e2 ⊢
      rw [e2]
      exact PVal.toks hR (.str _ _) h
theorem Slc.bytes {l : List Nat} {lo hi : Option Int} (hn : l.length ≤ 16777216) (h : Q (.txt true (sl l lo hi)) σ) : Slc C (.txt true l) lo hi none Q X σ := by
  intro value slice zs z s x a lv uv wv hR rx hs pl pu pw
  have rxq := rx.e; clear rx; obtain ⟨t, rfl, hl⟩ := rxq
  cases pw
  refine tail_of (PySem.W.typeIs_bytes _ _ _) PySem.W.FB.slot_bytes_getitem.lookup rfl ?_
  have e : PySem.W.KBy.picked (l.map UInt8.ofNat).toArray lo hi = ((sl l lo hi).map UInt8.ofNat).toArray := by
    rw [PySem.W.KBc.picked_eq]
    unfold sl
    simp [List.map_take, List.map_drop]
  refine getItem_meets (PySem.W.typeIs_bytes _ _ _) (by decide) PySem.W.FB.slot_bytes_getitem PySem.W.FB.entry_bytes_getitem (PySem.W.FB.args_bytes_getitem_2 _ _) (PySem.W.KBc.meets_slice2 _ t a pl pu) ⟨hs, ?_, ?_⟩
  · rw [e, List.size_toArray, List.length_map]
    exact size_ok (Nat.le_trans (sl_length_le l lo hi) hn)
  · intro t' k
    rw [e]
    refine PVal.toks hR (.bytes _ _ fun c hc => hl c ?_) h
    unfold sl at hc
    exact List.mem_of_mem_drop (List.mem_of_mem_take hc)
theorem Slc.txt {o : Bool} {l : List Nat} {lo hi : Option Int} (hn : l.length ≤ 16777216) (h : Q (.txt o (sl l lo hi)) σ) : Slc C (.txt o l) lo hi none Q X σ := by
  cases o
  · exact Slc.str hn h
  · exact Slc.bytes hn h
end
end PL

end
section
open PySem PySem.Calls PyProof.Rows
set_option Elab.async false
set_option linter.unusedVariables false
set_option linter.unusedSimpArgs false
namespace PL

/-! calls -/
section
variable {C : Cx} {X : XP} {σ : St} {Q : V → St → Prop}

inductive Kept (g : Gd) : Value → Prop
  | bi (id : String) : Kept g (.builtin id)
  | ty (n : String) : Kept g (.type n)
  | fn {a : Addr} {o : Obj} {fd : FuncData} (h : g.base.get? a = some o) (hd : o.data = .func fd) : Kept g (.ref a)

noncomputable def CallV (C : Cx) (f : Value) (vs : List V) (Q : V → St → Prop) (X : XP) (σ : St) : Prop := ∀ z₀ xs, RepL z₀ vs xs → TT C z₀ (call f xs []) (PVal Q) X σ

theorem evalArgs_of {M : Model} {A : Around} {E : Value → Shared → Prop} {s : Shared} {f : Value} {args : List (Bool × Sem Value)} {Q : Args → Shared → Prop} (hp : args.any (·.1) = false)
    (h : wpAny M A (spliced args) (fun vs s' => Q ⟨vs, []⟩ s') E s) : wpAny M A (evalArgs f true args []) Q E s := by
  have e : evalArgs f true args [] = (do
      let pos ← spliced args
      holding pos (do
        let kw := (([] : List (Option Str × Sem Value)).filterMap (·.1)).zip (← evalAll [])
        return ⟨← pure pos, kw⟩)) := by
    unfold evalArgs
    cases args with
    | nil => simp
    | cons a r =>
      obtain ⟨b, x⟩ := a
      cases b with
      | true => simp at hp
      | false => simp
  rw [e]
  refine wpAny_bind (wpAny_mono h (fun vs s' h' => ?_) fun _ _ x => x)
  exact wpAny_holding (wpAny_bind (wpAny_pure (wpAny_bind (wpAny_pure (wpAny_pure h')))))

theorem TT.callWith {z₀ : Z} {pos : Pos} {f : Value} {first : List Value} {args : List (Bool × Sem Value)} {P : Z → Value → St → Prop} (kf : Kept C.g f) (hp : args.any (·.1) = false)
    (h : TT C z₀ (spliced args) (fun z xs σ1 => TT C z (call f (first ++ xs) []) P X σ1) X σ) : TT C z₀ (callWith pos f first args []) P X σ := by
  intro zs z s hz hR
  have go : wpAny C.M C.A (spliced args) (fun xs s' => wpAny C.M C.A (call f (first ++ xs) []) (Post C zs z P) (PX C zs z X) s' ∧ ∀ b o, C.g.base.get? b = some o → s'.heap.get? b = some o) (PX C zs z X) s := by
    refine wpAny_mono (h zs z s hz hR) ?_ fun _ _ x => x
    rintro xs s1 ⟨z1, σ1, l1, R1, k⟩
    refine ⟨wpAny_mono (k zs z1 s1 (Z.le_refl _) R1) ?_ fun _ _ x => PX.le l1 x, R1.rh.base⟩
    rintro a s2 ⟨z2, σ2, l2, R2, q⟩
    exact ⟨z2, σ2, Z.le_trans l1 l2, R2, q⟩
  cases kf with
  | bi id => exact callWith_builtin hp (evalArgs_of hp (wpAny_mono go (fun _ _ x => x.1) fun _ _ x => x))
  | ty n => exact PyProof.Rows.callWith_type hp (evalArgs_of hp (wpAny_mono go (fun _ _ x => x.1) fun _ _ x => x))
  | fn hb hd => exact callWith_function (evalArgs_of hp (wpAny_mono go (fun _ _ x => ⟨⟨x.2 _ _ hb, hd⟩, x.1⟩) fun _ _ x => x))

theorem TE.call {func : Expr} {args : List Expr} {pos : Pos} (h : TE C func (fun fv σ1 => ∃ f, fv = .con f ∧ Kept C.g f ∧ TArgs C args (fun vs σ2 => CallV C f vs Q X σ2) X σ1) X σ)
    (hp : (backTo pos (starEach args C.env)).any (·.1) = false := by rfl)
    (he : eval (.Call func args [] pos) C.env = (do callWith pos (← eval func C.env) [] (backTo pos (starEach args C.env)) []) := by rfl) : TE C (.Call func args [] pos) Q X σ := by
  intro z₀
  rw [he]
  refine TT.bind (TT.mono (h z₀) ?_)
  rintro z fx σ1 l1 ⟨_, rf, f, rfl, kf, h1⟩
  cases rf
  refine TT.callWith kf hp (TT.mono (h1 pos z) ?_)
  rintro z2 xs σ2 l2 ⟨vs, rs, h2⟩
  exact h2 z2 xs rs

/-- a built-in method of a value -/
noncomputable def Meth (C : Cx) (σ : St) (ov : V) (name : Str) (id : String) : Prop :=
  ∀ zs z s x pl (Q' : Value × List Value → Shared → Prop) E, R C zs σ z s → Rep z ov x → Q' (.builtin id, [x]) s → wpAny C.M C.A (getMethod x name pl) Q' E s
theorem TE.meth {o : Expr} {name : Str} {id : String} {apos pos : Pos} {args : List Expr} (h : TE C o (fun ov σ1 => Meth C σ1 ov name id ∧ TArgs C args (fun vs σ2 => CallV C (.builtin id) (ov :: vs) Q X σ2) X σ1) X σ)
    (hp : (backTo pos (starEach args C.env)).any (·.1) = false := by rfl) (hb : attributeBase o name C.env (eval o C.env) = eval o C.env := by rfl)
    (hf : methodCallForm (args.length + 0) (backTo pos (starEach args C.env)) [] = true := by rfl) (hl : (apos.endLine == pos.line) = true := by rfl) : TE C (.Call (.Attribute o name apos) args [] pos) Q X σ := by
  intro z₀
  have e : eval (.Call (.Attribute o name apos) args [] pos) C.env = (do
    let ov ← eval o C.env
    standAt apos.atName
    let (f, first) ← holding [ov] (getMethod ov name (do return (← importBound o C.env).getD true))
    callWith pos f first (backTo pos (starEach args C.env)) []) := by
    have e0 : eval (.Call (.Attribute o name apos) args [] pos) C.env = (do
        let ov ← attributeBase o name C.env (eval o C.env)
        standAt apos.atName
        methodCall o name apos pos C.env ov (args.length + 0) (backTo pos (starEach args C.env)) []) := rfl
    rw [e0, hb]
    unfold methodCall methodCallPos calleeOf
    rw [hf]
    simp only [hl, if_true, Bool.not_true, Bool.false_or]
    rfl
  rw [e]
  refine TT.bind (TT.mono (h z₀) ?_)
  rintro z x σ1 l1 ⟨ov, rv, hm, h1⟩
  refine TT.at_ ?_
  intro zs z' s hz' hR
  refine wpAny_bind (wpAny_holding (hm zs z' s x _ _ _ hR (rv.mono hz') ?_))
  refine TT.callWith (C := C) (z₀ := z') (σ := σ1) (X := X) (.bi id) hp (TT.mono (h1 pos z') ?_) zs z' s (Z.le_refl _) hR
  rintro z2 xs σ2 l2 ⟨vs, rs, h2⟩
  exact h2 z2 _ (.cons ((rv.mono hz').mono l2) rs)
theorem CallV.toks {f : Value} {vs : List V} (h : ∀ z₀ zs z s xs, Z.le z₀ z → R C zs σ z s → RepL z vs xs → wpAny C.M C.A (call f xs []) (Post C zs z (PVal Q)) (PX C zs z X) s) : CallV C f vs Q X σ :=
  fun z₀ xs r zs z s hz hR => h z₀ zs z s xs hz hR (r.mono hz)
end

/-! facts of the methods of bytes -/
namespace BF
open PySem.W.FB
theorem slot_rfind : Slot "bytes" "rfind" "bytes.rfind" :=
  .of (owner := "bytes") (n := "rfind") (by rw [typeLookup_type, builtinLookup_eq_fast]; kernel_rfl) (by decide +kernel) (by decide +kernel) (by decide +kernel)
    (by first | exact .inl (by decide +kernel) | exact .inr (by decide +kernel)) (by rw [isSubtype_type]; kernel_rfl)
theorem type_rfind : typeOf (.builtin "bytes.rfind") = pure (.type "method_descriptor") := by show builtinType _ = _; rw [builtinType_eq_fast]; kernel_rfl
theorem entry_rfind : entryFor table "bytes.rfind" = some Builtin.«bytes.rfind» := entryFor_of_tree (by kernel_rfl)
theorem args_rfind (a b : Value) : argsOk "bytes.rfind" ⟨[a, b], []⟩ := by
  unfold argsOk; rw [signature?_of (id := "bytes.rfind") (n := ['d', 'n', 'i', 'f', 'r']) (o := ['s', 'e', 't', 'y', 'b']) (by kernel_rfl) owner_bytes]; kernel_rfl
theorem slot_rstrip : Slot "bytes" "rstrip" "bytes.rstrip" :=
  .of (owner := "bytes") (n := "rstrip") (by rw [typeLookup_type, builtinLookup_eq_fast]; kernel_rfl) (by decide +kernel) (by decide +kernel) (by decide +kernel)
    (by first | exact .inl (by decide +kernel) | exact .inr (by decide +kernel)) (by rw [isSubtype_type]; kernel_rfl)
theorem type_rstrip : typeOf (.builtin "bytes.rstrip") = pure (.type "method_descriptor") := by show builtinType _ = _; rw [builtinType_eq_fast]; kernel_rfl
theorem entry_rstrip : entryFor table "bytes.rstrip" = some Builtin.«bytes.rstrip» := entryFor_of_tree (by kernel_rfl)
theorem args_rstrip (a b : Value) : argsOk "bytes.rstrip" ⟨[a, b], []⟩ := by
  unfold argsOk; rw [signature?_of (id := "bytes.rstrip") (n := ['p', 'i', 'r', 't', 's', 'r']) (o := ['s', 'e', 't', 'y', 'b']) (by kernel_rfl) owner_bytes]; kernel_rfl
theorem slot_split : Slot "bytes" "split" "bytes.split" :=
  .of (owner := "bytes") (n := "split") (by rw [typeLookup_type, builtinLookup_eq_fast]; kernel_rfl) (by decide +kernel) (by decide +kernel) (by decide +kernel)
    (by first | exact .inl (by decide +kernel) | exact .inr (by decide +kernel)) (by rw [isSubtype_type]; kernel_rfl)
theorem type_split : typeOf (.builtin "bytes.split") = pure (.type "method_descriptor") := by show builtinType _ = _; rw [builtinType_eq_fast]; kernel_rfl
theorem entry_split : entryFor table "bytes.split" = some Builtin.«bytes.split» := entryFor_of_tree (by kernel_rfl)
theorem args_split (a b : Value) : argsOk "bytes.split" ⟨[a, b], []⟩ := by
  unfold argsOk; rw [signature?_of (id := "bytes.split") (n := ['t', 'i', 'l', 'p', 's']) (o := ['s', 'e', 't', 'y', 'b']) (by kernel_rfl) owner_bytes]; kernel_rfl
theorem slot_join : Slot "bytes" "join" "bytes.join" :=
  .of (owner := "bytes") (n := "join") (by rw [typeLookup_type, builtinLookup_eq_fast]; kernel_rfl) (by decide +kernel) (by decide +kernel) (by decide +kernel)
    (by first | exact .inl (by decide +kernel) | exact .inr (by decide +kernel)) (by rw [isSubtype_type]; kernel_rfl)
theorem type_join : typeOf (.builtin "bytes.join") = pure (.type "method_descriptor") := by show builtinType _ = _; rw [builtinType_eq_fast]; kernel_rfl
theorem entry_join : entryFor table "bytes.join" = some Builtin.«bytes.join» := entryFor_of_tree (by kernel_rfl)
theorem args_join (a b : Value) : argsOk "bytes.join" ⟨[a, b], []⟩ := by
  unfold argsOk; rw [signature?_of (id := "bytes.join") (n := ['n', 'i', 'o', 'j']) (o := ['s', 'e', 't', 'y', 'b']) (by kernel_rfl) owner_bytes]; kernel_rfl
end BF

section
variable {C : Cx} {σ : St}
theorem Meth.str {l : List Nat} {name : Str} {id : String} (slot : Slot "str" name id) (ty : typeOf (.builtin id) = pure (.type "method_descriptor")) : Meth C σ (.txt false l) name id := by
  intro zs z s x pl Q' E hR r h
  have rq := r.e; clear r; obtain ⟨t, rfl⟩ := rq
  with_reducible exact GM.of (.str _ t) (typeIs_str _ _ _) slot ty GM.noRef h
theorem Meth.bytes {l : List Nat} {name : Str} {id : String} (slot : Slot "bytes" name id) (ty : typeOf (.builtin id) = pure (.type "method_descriptor")) : Meth C σ (.txt true l) name id := by
  intro zs z s x pl Q' E hR r h
  have rq := r.e; clear r; obtain ⟨t, rfl, hl⟩ := rq
  with_reducible exact PySem.W.KBd.method_of (.bytes _ t) (PySem.W.typeIs_bytes _ _ _) slot ty PySem.W.KBd.noRef h
theorem Meth.list {v : V} {vs : List V} (k : IsL σ v vs) {name : Str} {id : String} (slot : Slot "list" name id) (ty : typeOf (.builtin id) = pure (.type "method_descriptor")) : Meth C σ v name id := by
  intro zs z s x pl Q' E hR r h
  obtain ⟨a, items, n, rfl, p, q⟩ := k.obj r (Z.le_refl _) hR
  exact getMethod_builtin (T := "list") ⟨_, p, rfl⟩ PySem.F.plainAttrs_list slot ty (fun b e => by cases e; exact ⟨_, p, rfl⟩) h
end
end PL

end
section
open PySem PySem.Calls PyProof.Rows
set_option Elab.async false
set_option linter.unusedVariables false
set_option linter.unusedSimpArgs false
namespace PL

/-! bytes: what the model's searches give on a single sign -/
section
open Builtin
theorem extract_one {b : List UInt8} {i : Nat} {c : UInt8} : (b.toArray.extract i (i + (#[c] : Array UInt8).size) == #[c]) = true ↔ b[i]? = some c := by
  have e : b.toArray.extract i (i + (#[c] : Array UInt8).size) = ((b.drop i).take 1).toArray := by
    simp [List.extract_toArray, List.extract_eq_take_drop]
  rw [e]
  constructor
  · intro h
    have h2 := eq_of_beq h
    have h3 : (b.drop i).take 1 = [c] := by simpa using congrArg Array.toList h2
    cases hd : b.drop i with
    | nil => rw [hd] at h3; simp at h3
    | cons x r =>
      rw [hd] at h3
      simp at h3
      have : b[i]? = (b.drop i)[0]? := by simp
      rw [this, hd]; simp [h3]
  · intro h
    have : (b.drop i).take 1 = [c] := by
      have h2 : (b.drop i)[0]? = some c := by simpa using h
      cases hd : b.drop i with
      | nil => rw [hd] at h2; simp at h2
      | cons x r => rw [hd] at h2; simp at h2; simp [h2]
    rw [this]; simp
theorem find_rev {P : Nat → Bool} (n k : Nat) (hk : k < n) (h1 : P k = true) (h2 : ∀ j, k < j → j < n → P j = false) : (List.range n).reverse.find? P = some k := by
  induction n with
  | zero => (clear h2 h1; (first | lia | omega))
  | succ n ih =>
    rw [List.range_succ, List.reverse_append, List.reverse_singleton, List.singleton_append, List.find?_cons]
    by_cases e : k = n
    · subst e; rw [h1]
    · rw [h2 n (by (clear h2 ih h1 P; (first | lia | omega))) (by (clear e h2 hk ih h1 P k; (first | lia | omega)))]
      exact ih (by (clear h2 ih h1 P; (first | lia | omega))) fun j a b => h2 j a (by (clear a e h2 hk ih h1 P k; (first | lia | omega)))
theorem find_rev_none {P : Nat → Bool} (n : Nat) (h : ∀ j, j < n → P j = false) : (List.range n).reverse.find? P = none := by
  rw [List.find?_eq_none]
  intro x hx
  simp at hx
  simp [h x hx]
theorem bytes_rfind? (l : List Nat) (c : Nat) (hl : ∀ x ∈ l, x < 256) (hc : c < 256) :
    Bytes.rfind? (l.map UInt8.ofNat).toArray #[UInt8.ofNat c] 0 l.length = (match cut c l with | 0 => none | k + 1 => some k) := by
  have key : ∀ i, (((l.map UInt8.ofNat).toArray.extract i (i + (#[UInt8.ofNat c] : Array UInt8).size) == #[UInt8.ofNat c]) = true) ↔ l[i]? = some c := by
    intro i
    rw [extract_one, List.getElem?_map, Option.map_eq_some_iff]
    constructor
    · rintro ⟨x, hx, e⟩
      rw [hx, ofNat_inj (hl x (List.mem_of_getElem? hx)) hc e]
    · intro h; exact ⟨c, h, rfl⟩
  unfold Bytes.rfind?
  have er : (List.range (l.length + 1 - (0 + (#[UInt8.ofNat c] : Array UInt8).size))).map (· + 0) = List.range l.length := by simp
  rw [er]
  rcases cut_spec c l with ⟨h0, h⟩ | ⟨k, h0, h1, h2⟩
  · rw [h0]
    exact find_rev_none _ fun j hj => Bool.eq_false_iff.mpr fun e => h j ((key j).mp e)
  · rw [h0]
    refine find_rev _ k (List.getElem?_eq_some_iff.mp h1).1 ((key k).mpr h1) fun j a b => Bool.eq_false_iff.mpr fun e => h2 j a ((key j).mp e)

theorem gives_bytes_rfind {l : List Nat} {c : Nat} {t u : Tok} (hl : ∀ x ∈ l, x < 256) (hc : c < 256) :
    Gives («bytes.rfind» ⟨[.bytes (l.map UInt8.ofNat).toArray t, .bytes #[UInt8.ofNat c] u], []⟩) (.int ((cut c l : Int) - 1)) := by
  refine .of_wp fun M A E s Q hq => ?_
  have e1 : Bytes.searchArgs .bytes "rfind" ⟨[.bytes (l.map UInt8.ofNat).toArray t, .bytes #[UInt8.ofNat c] u], []⟩ =
      pure ((l.map UInt8.ofNat).toArray, #[UInt8.ofNat c], if (l.length : Int) < 1 then none else some (0, l.length)) := by
    have hb : Bytes.buffer? "bytes.rfind" (.bytes #[UInt8.ofNat c] u) = pure (some #[UInt8.ofNat c]) := PySem.W.KBy.buffer_eq
    show (Bytes.buffer? "bytes.rfind" (.bytes #[UInt8.ofNat c] u) >>= fun r => _) = _
    rw [hb]
    show (pure ((l.map UInt8.ofNat).toArray, #[UInt8.ofNat c], _) : Sem _) = _
    have hn : ¬ ((l.length : Int) < 0) := by (clear hb hq Q s E A M hc hl u t c; (first | lia | omega))
    simp [Bytes.window, hn, Int.min_self]
  show wpAny M A (Bytes.searchArgs .bytes "rfind" _ >>= fun r => _) _ E s
  refine wpAny_bind (wpAny_of_eq e1 ?_)
  have e2 : ((if (l.length : Int) < 1 then none else some (0, l.length) : Option (Nat × Nat)).bind fun (p : Nat × Nat) => if true = true then Bytes.rfind? (l.map UInt8.ofNat).toArray #[UInt8.ofNat c] p.1 p.2 else Bytes.find? (l.map UInt8.ofNat).toArray #[UInt8.ofNat c] p.1 p.2) =
      (match cut c l with | 0 => none | k + 1 => some k) := by
    by_cases h : (l.length : Int) < 1
    · rw [if_pos h]
      have : l = [] := List.length_eq_zero_iff.mp (by (clear e1 hq Q s E A M hc hl u t c; (first | lia | omega)))
      subst this; rfl
    · rw [if_neg h]; exact bytes_rfind? l c hl hc
  show wpAny M A (match ((if (l.length : Int) < 1 then none else some (0, l.length) : Option (Nat × Nat)).bind fun (p : Nat × Nat) => if true = true then Bytes.rfind? (l.map UInt8.ofNat).toArray #[UInt8.ofNat c] p.1 p.2 else Bytes.find? (l.map UInt8.ofNat).toArray #[UInt8.ofNat c] p.1 p.2) with
    | some i => retInt i
    | none => (do rule "bytes.rfind.not-found"; retInt (-1))) _ E s
  rw [e2]
  cases hk : cut c l with
  | zero =>
    rw [hk] at hq
    have : ((0 : Nat) : Int) - 1 = -1 := rfl
    rw [this] at hq
    exact wpAny_bind (wpAny_rule (wpAny_bind (wpAny_mkInt (wpAny_pure ⟨_, rfl, hq⟩))))
  | succ k =>
    rw [hk] at hq
    have : ((k + 1 : Nat) : Int) - 1 = (k : Int) := by (clear hk hq e2 e1 Q s E A M hc hl u t c l; (first | lia | omega))
    rw [this] at hq
    exact wpAny_bind (wpAny_mkInt (wpAny_pure ⟨_, rfl, hq⟩))

theorem bytesLike_eq {id : String} {b : Array UInt8} {t : Tok} : Bytes.bytesLike id (.bytes b t) = pure b := by
  unfold Bytes.bytesLike
  rw [PySem.W.KBy.buffer_eq]
  rfl
theorem dropWhile_map {l : List Nat} {c : Nat} (hl : ∀ x ∈ l, x < 256) (hc : c < 256) : (l.map UInt8.ofNat).dropWhile (#[UInt8.ofNat c] : Array UInt8).contains = (l.dropWhile (· == c)).map UInt8.ofNat := by
  induction l with
  | nil => rfl
  | cons x r ih =>
    have e : (#[UInt8.ofNat c] : Array UInt8).contains (UInt8.ofNat x) = (x == c) := by
      rw [Bool.eq_iff_iff]
      simp only [Array.contains_eq_mem, List.mem_toArray, List.mem_singleton, decide_eq_true_eq, beq_iff_eq]
      constructor
      · intro h; exact ofNat_inj (hl x List.mem_cons_self) hc h
      · intro h; rw [h]
    rw [List.map_cons, List.dropWhile_cons, List.dropWhile_cons, e]
    split
    · exact ih fun y hy => hl y (List.mem_cons_of_mem _ hy)
    · rfl
theorem mem_rstripS {c x : Nat} {l : List Nat} (h : x ∈ rstripS c l) : x ∈ l := by
  unfold rstripS at h
  rw [List.mem_reverse] at h
  exact List.mem_reverse.mp ((List.dropWhile_sublist _).subset h)
theorem rstripS_length (c : Nat) (l : List Nat) : (rstripS c l).length ≤ l.length := by
  unfold rstripS
  rw [List.length_reverse]
  have := (List.dropWhile_sublist (p := (· == c)) (l := l.reverse)).length_le
  simpa using this
theorem rstripS_same {c : Nat} {l : List Nat} (h : (rstripS c l).length = l.length) : rstripS c l = l := by
  unfold rstripS at h ⊢
  rw [List.length_reverse] at h
  have e : l.reverse.dropWhile (· == c) = l.reverse := (List.dropWhile_sublist (p := (· == c)) (l := l.reverse)).eq_of_length (by rw [h, List.length_reverse])
  rw [e, List.reverse_reverse]

section
variable {prog : Program} {w : World} {A : Around} {E : Value → Shared → Prop} {s : Shared} {Q : Value → Shared → Prop} {l : List Nat} {c : Nat} {t u : Tok}
theorem call_bytes_rfind (hl : ∀ x ∈ l, x < 256) (hc : c < 256) (h : Q (.int ((cut c l : Int) - 1) s.toks) { s with toks := s.toks + 1 }) :
    wpAny (model prog w) A (call (.builtin "bytes.rfind") [.bytes (l.map UInt8.ofNat).toArray t, .bytes #[UInt8.ofNat c] u]) Q E s :=
  call_gives BF.slot_rfind (PySem.W.typeIs_bytes _ _ _) BF.entry_rfind (BF.args_rfind _ _) (gives_bytes_rfind hl hc) h
theorem call_bytes_rstrip (hl : ∀ x ∈ l, x < 256) (hc : c < 256) (hn : l.length ≤ 16777216) (h : ∀ t' k, Q (.bytes ((rstripS c l).map UInt8.ofNat).toArray t') { s with toks := k }) :
    wpAny (model prog w) A (call (.builtin "bytes.rstrip") [.bytes (l.map UInt8.ofNat).toArray t, .bytes #[UInt8.ofNat c] u]) Q E s := by
  have g : Gives («bytes.rstrip» ⟨[.bytes (l.map UInt8.ofNat).toArray t, .bytes #[UInt8.ofNat c] u], []⟩)
      (if (rstripS c l).length = l.length then .val (.bytes (l.map UInt8.ofNat).toArray t) else .bytes ((rstripS c l).map UInt8.ofNat).toArray) := by
    refine .of_wp fun M A E s Q hq => ?_
    show wpAny M A (Bytes.bytesLike "bytes.rstrip" (.bytes #[UInt8.ofNat c] u) >>= fun set => _) _ E s
    refine wpAny_bind (wpAny_of_eq bytesLike_eq (wpAny_bind (wpAny_pure ?_)))
    refine wpAny_bind (wpAny_of_eq (a := (l.map UInt8.ofNat).toArray) rfl ?_)
    have ek : ((l.map UInt8.ofNat).toArray.toList.reverse.dropWhile (#[UInt8.ofNat c] : Array UInt8).contains).reverse = (rstripS c l).map UInt8.ofNat := by
      rw [List.toList_toArray, ← List.map_reverse, dropWhile_map (fun x hx => hl x (List.mem_reverse.mp hx)) hc, ← List.map_reverse]
      rfl
    simp only [Bool.false_eq_true, if_false, if_true, List.toList_toArray] at ek ⊢
    rw [ek]
    by_cases e : (rstripS c l).length = l.length
    · rw [if_pos e] at hq
      rw [if_pos (by simp [e])]
      exact wpAny_bind (wpAny_rule (wpAny_bind (wpAny_bind (wpAny_typeOf (PySem.W.typeIs_bytes s _ t) (wpAny_pure (wpAny_pure ⟨_, rfl, hq⟩))))))
    · rw [if_neg e] at hq
      rw [if_neg (by simp [e])]
      exact wpAny_bind (wpAny_mkBytes (wpAny_pure ⟨_, rfl, hq.2⟩) hq.1)
  refine call_gives BF.slot_rstrip (PySem.W.typeIs_bytes _ _ _) BF.entry_rstrip (BF.args_rstrip _ _) g ?_
  by_cases e : (rstripS c l).length = l.length
  · rw [if_pos e]
    have := h t s.toks
    rw [rstripS_same e] at this
    exact this
  · rw [if_neg e]
    refine ⟨?_, h _ _⟩
    rw [List.size_toArray, List.length_map]
    exact size_ok (Nat.le_trans (rstripS_length c l) hn)
end
end
end PL

end
section
open PySem PySem.Calls PyProof.Rows
set_option Elab.async false
set_option linter.unusedVariables false
set_option linter.unusedSimpArgs false
namespace PL
section
open Builtin

/-- the places of a sign -/
noncomputable def occS (c : UInt8) : List UInt8 → List Nat
  | [] => []
  | x :: r => if x = c then 0 :: (occS c r).map (· + 1) else (occS c r).map (· + 1)
noncomputable def betw (b : List UInt8) : Nat → List Nat → List (List UInt8)
  | last, [] => [b.drop last]
  | last, p :: r => ((b.drop last).take (p - last)) :: betw b (p + 1) r
noncomputable def splitB (c : UInt8) : List UInt8 → List (List UInt8)
  | [] => [[]]
  | x :: r => if x = c then [] :: splitB c r else match splitB c r with
    | [] => [[x]]
    | p :: ps => (x :: p) :: ps
theorem betw_shift (x : UInt8) (r : List UInt8) : ∀ (ps : List Nat) (k : Nat), betw (x :: r) (k + 1) (ps.map (· + 1)) = betw r k ps
  | [], k => rfl
  | p :: ps, k => by
    simp only [List.map_cons, betw, List.drop_succ_cons, Nat.add_sub_add_right]
    rw [betw_shift x r ps (p + 1)]
theorem betw_head (x : UInt8) (r : List UInt8) : ∀ (ps : List Nat), betw (x :: r) 0 (ps.map (· + 1)) = match betw r 0 ps with | [] => [[x]] | p :: q => (x :: p) :: q
  | [] => by simp [betw]
  | p :: ps => by
    simp only [List.map_cons, betw, List.drop_zero, Nat.sub_zero, List.take_succ_cons]
    rw [betw_shift x r ps (p + 1)]
theorem betw_split (c : UInt8) : ∀ b : List UInt8, betw b 0 (occS c b) = splitB c b
  | [] => rfl
  | x :: r => by
    have ih := betw_split c r
    unfold occS splitB
    by_cases h : x = c
    · rw [if_pos h, if_pos h]
      simp only [betw, List.drop_zero, Nat.sub_self, List.take_zero]
      rw [betw_shift, ih]
    · rw [if_neg h, if_neg h, betw_head, ih]
theorem occS_eq (c : UInt8) : ∀ b : List UInt8, occS c b = (List.range b.length).filter fun i => b[i]? == some c
  | [] => rfl
  | x :: r => by
    have ih := occS_eq c r
    unfold occS
    rw [List.length_cons, List.range_succ_eq_map, List.filter_cons, ih, List.filter_map]
    have e : ((fun i => (x :: r)[i]? == some c) ∘ Nat.succ) = fun i => r[i]? == some c := by funext i; simp
    have e2 : (fun i => i + 1) = Nat.succ := rfl
    rw [e, e2]
    by_cases h : x = c
    · rw [if_pos h, if_pos (by simp [h])]
    · rw [if_neg h, if_neg (by simp [h])]
theorem occ_bytes (b : List UInt8) (c : UInt8) : Bytes.occurrences b.toArray #[c] 0 b.length = occS c b := by
  unfold Bytes.occurrences
  have er : (List.range (b.length + 1 - (0 + (#[c] : Array UInt8).size))).map (· + 0) = List.range b.length := by simp
  simp only [er]
  have key : ∀ n, n ≤ b.length → ∃ f, (List.range n).foldl (fun (acc : List Nat × Nat) i => if (i ≥ acc.2 && b.toArray.extract i (i + (#[c] : Array UInt8).size) == #[c]) = true then (i :: acc.1, i + (#[c] : Array UInt8).size) else acc) ([], 0) =
      (((List.range n).filter fun i => b[i]? == some c).reverse, f) ∧ f ≤ n := by
    intro n
    induction n with
    | zero => intro _; exact ⟨0, rfl, Nat.le_refl _⟩
    | succ n ih =>
      intro hn
      obtain ⟨f, e, hf⟩ := ih (by (clear ih er c; (first | lia | omega)))
      rw [List.range_succ, List.foldl_append, e, List.filter_append]
      simp only [List.foldl_cons, List.foldl_nil]
      have eb : (decide (n ≥ f) && b.toArray.extract n (n + (#[c] : Array UInt8).size) == #[c]) = (b[n]? == some c) := by
        rw [decide_eq_true hf, Bool.true_and, Bool.eq_iff_iff, extract_one, beq_iff_eq]
      rw [eb]
      cases hb : (b[n]? == some c) with
      | true =>
        refine ⟨n + 1, ?_, Nat.le_refl _⟩
        simp [hb]
      | false =>
        refine ⟨f, ?_, by (clear hb eb e hn ih er c b; (first | lia | omega))⟩
        simp [hb]
  obtain ⟨f, e, _⟩ := key b.length (Nat.le_refl _)
  rw [e, List.reverse_reverse, occS_eq]
theorem between_eq (b : List UInt8) (ps : List Nat) : Bytes.between b.toArray 1 ps = (betw b 0 ps).map List.toArray := by
  unfold Bytes.between
  have key : ∀ (ps : List Nat) (parts : Array (Array UInt8)) (last : Nat),
      (let r := ps.foldl (fun (x : Array (Array UInt8) × Nat) p => (x.1.push (b.toArray.extract x.2 p), p + 1)) (parts, last); (r.1.push (b.toArray.extract r.2 b.toArray.size)).toList) = parts.toList ++ (betw b last ps).map List.toArray := by
    intro ps
    induction ps with
    | nil =>
      intro parts last
      simp [betw, List.extract_toArray, List.extract_eq_take_drop]
      exact List.take_of_length_le (by simp)
    | cons p ps ih =>
      intro parts last
      rw [List.foldl_cons]
      have := ih (parts.push (b.toArray.extract last p)) (p + 1)
      dsimp only at this ⊢
      rw [this]
      simp [betw, List.extract_toArray, List.extract_eq_take_drop]
  have := key ps #[] 0
  simpa using this
theorem splitB_map {c : Nat} (hc : c < 256) : ∀ {l : List Nat}, (∀ x ∈ l, x < 256) → splitB (UInt8.ofNat c) (l.map UInt8.ofNat) = (splitS c l).map (·.map UInt8.ofNat)
  | [], _ => rfl
  | x :: r, hl => by
    have ih := splitB_map hc (l := r) fun y hy => hl y (List.mem_cons_of_mem _ hy)
    rw [List.map_cons]
    unfold splitB splitS
    by_cases h : x = c
    · rw [if_pos h, if_pos (by rw [h]), ih]; rfl
    · rw [if_neg h, if_neg (fun e => h (ofNat_inj (hl x List.mem_cons_self) hc e)), ih]
      cases splitS c r <;> rfl
theorem splitS_mem {c : Nat} : ∀ {l : List Nat} {p : List Nat}, p ∈ splitS c l → ∀ x ∈ p, x ∈ l
  | [], p, hp, x, hx => by simp [splitS] at hp; subst hp; cases hx
  | y :: r, p, hp, x, hx => by
    unfold splitS at hp
    by_cases h : y = c
    · rw [if_pos h] at hp
      rcases List.mem_cons.mp hp with e | hp
      · subst e; cases hx
      · exact List.mem_cons_of_mem _ (splitS_mem hp x hx)
    · rw [if_neg h] at hp
      cases hs : splitS c r with
      | nil => exact absurd hs (splitS_ne c r)
      | cons q qs =>
        rw [hs] at hp
        rcases List.mem_cons.mp hp with e | hp
        · subst e
          rcases List.mem_cons.mp hx with e | hx
          · subst e; exact List.mem_cons_self
          · exact List.mem_cons_of_mem _ (splitS_mem (p := q) (by rw [hs]; exact List.mem_cons_self) x hx)
        · exact List.mem_cons_of_mem _ (splitS_mem (p := p) (by rw [hs]; exact List.mem_cons_of_mem _ hp) x hx)
theorem splitS_length (c : Nat) : ∀ l : List Nat, (splitS c l).length ≤ l.length + 1
  | [] => by simp [splitS]
  | x :: r => by
    have ih := splitS_length c r
    unfold splitS
    by_cases h : x = c
    · rw [if_pos h]; simp; (clear h x; (first | lia | omega))
    · rw [if_neg h]
      cases hs : splitS c r with
      | nil => simp
      | cons q qs => rw [hs] at ih; simp at ih ⊢; (clear hs q h x c; (first | lia | omega))
theorem splitS_part_length {c : Nat} : ∀ {l : List Nat} {p : List Nat}, p ∈ splitS c l → p.length ≤ l.length
  | [], p, hp => by simp [splitS] at hp; subst hp; simp
  | x :: r, p, hp => by
    unfold splitS at hp
    by_cases h : x = c
    · rw [if_pos h] at hp
      rcases List.mem_cons.mp hp with e | hp
      · subst e; simp
      · have := splitS_part_length hp; simp; (first | lia | omega)
    · rw [if_neg h] at hp
      cases hs : splitS c r with
      | nil => exact absurd hs (splitS_ne c r)
      | cons q qs =>
        rw [hs] at hp
        rcases List.mem_cons.mp hp with e | hp
        · subst e
          have := splitS_part_length (p := q) (l := r) (c := c) (by rw [hs]; exact List.mem_cons_self)
          simp; (clear hp hs qs h x c; (first | lia | omega))
        · have := splitS_part_length (p := p) (l := r) (c := c) (by rw [hs]; exact List.mem_cons_of_mem _ hp)
          simp; (first | lia | omega)

section
variable {prog : Program} {w : World} {A : Around} {E : Value → Shared → Prop} {s : Shared} {l : List Nat} {c : Nat} {t u : Tok}
theorem wpAny_mapM_mkBytes {M : Model} (ps : List (List Nat)) : ∀ (s : Shared) (Q : List Value → Shared → Prop), (∀ p ∈ ps, (∀ x ∈ p, x < 256) ∧ p.length ≤ 16777216) → (∀ xs k, (∀ z, RepL z (ps.map (.txt true)) xs) → Q xs { s with toks := k }) →
    wpAny M A ((ps.map fun p => (p.map UInt8.ofNat).toArray).mapM (Bytes.Kind.new .bytes)) Q E s := by
  induction ps with
  | nil => intro s Q _ h; rw [List.map_nil, List.mapM_nil]; exact wpAny_pure (h [] s.toks fun z => .nil)
  | cons p ps ih =>
    intro s Q hp h
    rw [List.map_cons, List.mapM_cons]
    obtain ⟨h1, h2⟩ := hp p List.mem_cons_self
    refine wpAny_bind ?_
    show wpAny M A (mkBytes _) _ E s
    refine wpAny_mkBytes ?_ (by rw [List.size_toArray, List.length_map]; exact size_ok h2)
    refine wpAny_bind (ih _ _ (fun q hq => hp q (List.mem_cons_of_mem _ hq)) fun xs k r => wpAny_pure (h _ k fun z => .cons (.bytes p _ h1) (r z)))
theorem call_bytes_split {Q : Value → Shared → Prop} (hl : ∀ x ∈ l, x < 256) (hc : c < 256) (hn : l.length ≤ 10000000)
    (h : ∀ xs k, (∀ z, RepL z ((splitS c l).map (.txt true)) xs) → Q (.ref s.heap.objs.size) { s with heap := s.heap.push (lstO xs 0), toks := k }) :
    wpAny (model prog w) A (call (.builtin "bytes.split") [.bytes (l.map UInt8.ofNat).toArray t, .bytes #[UInt8.ofNat c] u]) Q E s := by
  have g : Meets («bytes.split» ⟨[.bytes (l.map UInt8.ofNat).toArray t, .bytes #[UInt8.ofNat c] u], []⟩)
      (fun _ R s => ∀ xs k, (∀ z, RepL z ((splitS c l).map (.txt true)) xs) → R (.ok (.ret (.ref s.heap.objs.size))) { s with heap := s.heap.push (lstO xs 0), toks := k }) := by
    refine .of_wp fun prog w A R s hq => ?_
    have hocc := occ_bytes (l.map UInt8.ofNat) (UInt8.ofNat c)
    rw [List.length_map] at hocc
    have hb : splitB (UInt8.ofNat c) (l.map UInt8.ofNat) = (splitS c l).map (·.map UInt8.ofNat) := splitB_map hc hl
    have hbt := betw_split (UInt8.ofNat c) (l.map UInt8.ofNat)
    show wpAny _ _ (Bytes.bytesLike "bytes.split" (.bytes #[UInt8.ofNat c] u) >>= fun sep => _) _ _ s
    refine wpAny_bind (wpAny_of_eq bytesLike_eq ?_)
    show wpAny _ _ (if (Bytes.occurrences (l.map UInt8.ofNat).toArray #[UInt8.ofNat c] 0 (l.map UInt8.ofNat).toArray.size |>.take ((l.map UInt8.ofNat).toArray.size + 1)).isEmpty = true then _ else
      (Bytes.between (l.map UInt8.ofNat).toArray 1 (Bytes.occurrences (l.map UInt8.ofNat).toArray #[UInt8.ofNat c] 0 (l.map UInt8.ofNat).toArray.size |>.take ((l.map UInt8.ofNat).toArray.size + 1))).mapM (Bytes.Kind.new .bytes) >>= fun vs => newList vs >>= fun r => ret r) _ _ s
    rw [List.size_toArray, List.length_map, hocc]
    have htake : (occS (UInt8.ofNat c) (l.map UInt8.ofNat)).take (l.length + 1) = occS (UInt8.ofNat c) (l.map UInt8.ofNat) := by
      apply List.take_of_length_le
      rw [occS_eq]
      refine Nat.le_trans (List.length_filter_le _ _) ?_
      simp
    rw [htake, between_eq, hbt, hb]
    by_cases he : (occS (UInt8.ofNat c) (l.map UInt8.ofNat)).isEmpty = true
    · rw [if_pos he]
      have h0 : occS (UInt8.ofNat c) (l.map UInt8.ofNat) = [] := List.isEmpty_iff.mp he
      rw [h0] at hbt
      have h1 : (splitS c l).map (·.map UInt8.ofNat) = [l.map UInt8.ofNat] := by rw [← hb, ← hbt]; simp [betw]
      have h2 : splitS c l = [l] := by
        cases hs : splitS c l with
        | nil => exact absurd hs (splitS_ne c l)
        | cons p ps =>
          rw [hs] at h1
          simp only [List.map_cons, List.cons.injEq, List.map_eq_nil_iff] at h1
          obtain ⟨h1, rfl⟩ := h1
          rw [map_ofNat_inj (fun x hx => hl x (splitS_mem (by rw [hs]; exact List.mem_cons_self) x hx)) hl h1]
      refine wpAny_bind (wpAny_rule (wpAny_bind (wpAny_bind (wpAny_typeOf (PySem.W.typeIs_bytes s _ t) (wpAny_pure ?_)))))
      refine wpAny_bind (wpAny_newList (wpAny_pure ⟨_, rfl, ?_⟩) (by show 1 ≤ sizeLine; decide))
      exact hq [.bytes (l.map UInt8.ofNat).toArray t] s.toks fun z => by rw [h2]; exact .cons (.bytes l t hl) .nil
    · rw [if_neg he]
      have em : ((splitS c l).map (·.map UInt8.ofNat)).map List.toArray = (splitS c l).map fun p => (p.map UInt8.ofNat).toArray := by rw [List.map_map]; rfl
      rw [em]
      refine wpAny_bind (wpAny_mapM_mkBytes (splitS c l) s _ (fun p hp => ⟨fun x hx => hl x (splitS_mem hp x hx), Nat.le_trans (splitS_part_length hp) (by (clear hp p em he htake hbt hb hocc hq s R A w prog h hc hl Q; (first | lia | omega)))⟩) fun xs k r => ?_)
      refine wpAny_bind (wpAny_newList (wpAny_pure ⟨_, rfl, hq xs k r⟩) ?_)
      rw [(r fun _ => none).length, List.length_map]
      exact size_ok (Nat.le_trans (splitS_length c l) (by (clear r k xs em he htake hbt hb hocc hq s R A w prog h hc hl Q; (first | lia | omega))))
  exact call_meets BF.slot_split (PySem.W.typeIs_bytes _ _ _) BF.entry_split (BF.args_split _ _) g h
end
end
end PL

end
section
open PySem PySem.Calls PyProof.Rows
set_option Elab.async false
set_option linter.unusedVariables false
set_option linter.unusedSimpArgs false
namespace PL
section
open Builtin
noncomputable abbrev arr (p : List Nat) : Array UInt8 := (p.map UInt8.ofNat).toArray

theorem takeBufferQuiet_eq {id : String} {b : Array UInt8} {t : Tok} : Bytes.takeBufferQuiet? id (.bytes b t) 0 = pure (some (b, none)) := by
  have e : Bytes.takeBuffer? id (.bytes b t) 0 = pure (some (b, none)) := by
    unfold Bytes.takeBuffer?
    rw [PySem.W.KBy.special_eq PySem.W.KBy.look_buffer]
    rw [pure_bind]
    dsimp only
    rw [PySem.W.KBy.own_buffer]
    show ((Bytes.buffer? id (.bytes b t) (full := (0 : Int) == Bytes.fullReadOnly)) >>= fun r => pure (r.map (·, none))) = _
    have : ((0 : Int) == Bytes.fullReadOnly) = false := by decide
    rw [this, PySem.W.KBy.buffer_eq]
    rfl
  unfold Bytes.takeBufferQuiet?
  rw [e]
  rfl
theorem wpAny_joinLetGo {M : Model} {A : Around} {E : Value → Shared → Prop} {s : Shared} {keep : List Value} : ∀ {taken : List (Value × Option Value)} {Q : Unit → Shared → Prop}, (∀ p ∈ taken, p.2 = none) → Q () s → wpAny M A (Bytes.joinLetGo taken keep) Q E s
  | [], Q, _, h => wpAny_pure h
  | (x, w) :: rest, Q, hn, h => by
    have : w = none := hn (x, w) List.mem_cons_self
    subst this
    unfold Bytes.joinLetGo
    exact wpAny_bind (wpAny_letGo (wpAny_joinLetGo (fun p hp => hn p (List.mem_cons_of_mem _ hp)) h))
theorem joined_go (sep : List UInt8) : ∀ (ps : List (List UInt8)) (acc : List UInt8) (k : Nat), 0 < k →
    ((ps.map List.toArray).zipIdx k).foldl (fun (out : Array UInt8) (x : Array UInt8 × Nat) => (if x.2 > 0 then out ++ sep.toArray else out) ++ x.1) acc.toArray = (acc ++ (ps.map (sep ++ ·)).flatten).toArray
  | [], acc, k, _ => by simp
  | p :: ps, acc, k, hk => by
    rw [List.map_cons, List.zipIdx_cons, List.foldl_cons]
    have ih := joined_go sep ps (acc ++ sep ++ p) (k + 1) (by (clear acc ps p sep hk; (first | lia | omega)))
    simp only [if_pos hk, gt_iff_lt]
    have e : acc.toArray ++ sep.toArray ++ p.toArray = (acc ++ sep ++ p).toArray := by simp
    rw [e]
    simp only [gt_iff_lt] at ih
    rw [ih]
    simp
noncomputable def joinB (sep : List UInt8) : List (List UInt8) → List UInt8
  | [] => []
  | [p] => p
  | p :: q :: r => p ++ sep ++ joinB sep (q :: r)
theorem joinB_flat (sep : List UInt8) : ∀ (p : List UInt8) (ps : List (List UInt8)), joinB sep (p :: ps) = p ++ (ps.map (sep ++ ·)).flatten
  | p, [] => by simp [joinB]
  | p, q :: r => by
    have ih := joinB_flat sep q r
    simp [joinB, ih]
theorem joined_eq (sep : List UInt8) (ps : List (List UInt8)) : Bytes.joined sep.toArray (ps.map List.toArray) = (joinB sep ps).toArray := by
  unfold Bytes.joined
  cases ps with
  | nil => rfl
  | cons p ps =>
    rw [List.map_cons, List.zipIdx_cons, List.foldl_cons]
    have := joined_go sep ps p 1 (by (clear ps p sep; (first | lia | omega)))
    simp only [gt_iff_lt, Nat.lt_irrefl, if_false, Nat.zero_add] at this ⊢
    have e : (#[] : Array UInt8) ++ p.toArray = p.toArray := by simp
    rw [e, this, joinB_flat]
theorem joinB_map (sep : List Nat) : ∀ ps : List (List Nat), joinB (sep.map UInt8.ofNat) (ps.map (·.map UInt8.ofNat)) = (joinS sep ps).map UInt8.ofNat
  | [] => rfl
  | [p] => rfl
  | p :: q :: r => by
    have ih := joinB_map sep (q :: r)
    simp only [List.map_cons] at ih
    simp [joinB, joinS, ih]
theorem joinS_length (sep : List Nat) : ∀ ps : List (List Nat), (joinS sep ps).length = (ps.map List.length).sum + sep.length * (ps.length - 1)
  | [] => by simp [joinS]
  | [p] => by simp [joinS]
  | p :: q :: r => by
    have ih := joinS_length sep (q :: r)
    simp only [joinS, List.length_append, ih, List.map_cons, List.sum_cons, List.length_cons]
    have : sep.length * (r.length + 1 + 1 - 1) = sep.length * (r.length + 1 - 1) + sep.length := by
      have e1 : r.length + 1 + 1 - 1 = r.length + 1 - 1 + 1 := by (clear ih p q sep; (first | lia | omega))
      rw [e1, Nat.mul_succ]
    (clear ih; (first | lia | omega))
theorem joinS_mem {sep : List Nat} {x : Nat} : ∀ {ps : List (List Nat)}, x ∈ joinS sep ps → x ∈ sep ∨ ∃ p ∈ ps, x ∈ p
  | [], h => by simp [joinS] at h
  | [p], h => .inr ⟨p, List.mem_cons_self, h⟩
  | p :: q :: r, h => by
    simp only [joinS, List.mem_append] at h
    rcases h with (h | h) | h
    · exact .inr ⟨p, List.mem_cons_self, h⟩
    · exact .inl h
    · rcases joinS_mem h with h | ⟨p', hp', h⟩
      · exact .inl h
      · exact .inr ⟨p', List.mem_cons_of_mem _ hp', h⟩
theorem foldl_sizes (ps : List (List Nat)) : ∀ k : Nat, (ps.map arr).foldl (fun a b => a + b.size) k = k + (ps.map List.length).sum := by
  induction ps with
  | nil => intro k; simp
  | cons p ps ih => intro k; rw [List.map_cons, List.foldl_cons, ih]; simp; (clear ih; (first | lia | omega))

theorem RepL.bytesAt {z : Z} {ps : List (List Nat)} {xs : List Value} (r : RepL z (ps.map (.txt true)) xs) {i : Nat} {p : List Nat} (h : ps[i]? = some p) : ∃ t, xs[i]? = some (.bytes (arr p) t) ∧ ∀ c ∈ p, c < 256 := by
  obtain ⟨x, hx, rx⟩ := r.get (i := i) (v := .txt true p) (by rw [List.getElem?_map, h]; rfl)
  have rxq := rx.e; clear rx; obtain ⟨t, rfl, hl⟩ := rxq
  exact ⟨t, hx, hl⟩

section
variable {prog : Program} {w : World} {A : Around} {E : Value → Shared → Prop} {s : Shared}
noncomputable abbrev JS := Array (Array UInt8) × List (Value × Option Value)
/-- one item of a join of octets -/
noncomputable def bodyJ (a : Addr) (n : Nat) (i : Nat) (__s : JS) : Sem (ForInStep JS) := do
  let held : List Value := (Value.ref a) :: __s.2.flatMap fun (y, u) => y :: u.toList
  let some now ← seqItems? (.ref a) | (do unsupported "internal:bytes.join"; pure (ForInStep.yield (__s.1, __s.2)))
  let x := now.getD i .none
  let jp : Unit → Sem (ForInStep (Array (Array UInt8) × List (Value × Option Value))) := fun _ => do
    let some (b, w) ← holding (x :: held) (Bytes.takeBufferQuiet? "bytes.join" x 0) | (do
      rule "bytes.join.item-not-bytes-like"
      holding (x :: held.drop 1) point
      Bytes.joinLetGo __s.2 [x]
      raiseErrorMade "TypeError" s!"sequence item {i}: expected a bytes-like object, {← typeNameOf x} found"
      pure (ForInStep.yield (__s.1, __s.2)))
    let some after ← seqItems? (.ref a) | (do unsupported "internal:bytes.join"; pure (ForInStep.yield (__s.1.push b, __s.2 ++ [(x, w)])))
    if after.size != n then do
      rule "bytes.join.changed-size"
      Bytes.joinLetGo (__s.2 ++ [(x, w)]) []
      raiseErrorWords "RuntimeError" "sequence changed size during iteration"
      pure (ForInStep.yield (__s.1.push b, __s.2 ++ [(x, w)]))
    else pure (ForInStep.yield (__s.1.push b, __s.2 ++ [(x, w)]))
  if (Bytes.Kind.bytes == Bytes.Kind.bytearray || __s.2.any fun x => x.1.onHeap) = true then do
    match ← specialOf x "__buffer__" with
    | none => jp ()
    | some (.builtin _) => jp ()
    | some val => do jp (← unsupported "bytes.join:buffer")
  else jp ()
noncomputable def tailJ (sep : List Nat) (t : Tok) (r : JS) : Sem PySem.Fin := do
  let sep' ← Bytes.payload (.bytes (arr sep) t)
  let jp : Unit → Sem PySem.Fin := fun _ => do
    let result ← Bytes.Kind.bytes.new (Bytes.joined sep' r.1.toList)
    holding (result :: r.2.flatMap fun (y, u) => y :: u.toList) point
    Bytes.joinLetGo r.2 [result]
    ret result
  if Bytes.tooLong (r.1.foldl (fun x1 x2 => x1 + x2.size) (sep'.size * (r.1.size - 1))) = true then do
    jp (← unsupported "bytes.join:memory")
  else jp ()
noncomputable def longJ (sep : List Nat) (t : Tok) (a : Addr) (n : Nat) : Sem PySem.Fin := forIn [:n] ((#[], []) : JS) (bodyJ a n) >>= tailJ sep t
theorem sub_step {n j : Nat} (h : j < n) : n - j = (n - (j + 1)) + 1 := by (first | lia | omega)
theorem bodyJ_ok {a : Addr} {p : List Nat} {tk : Tok} {xs : List Value} {n i : Nat} {b : JS} (ho : s.heap.get? a = some (lstO xs n)) (hx : xs[i]? = some (.bytes (arr p) tk)) (hb2 : ∀ p ∈ b.2, p.2 = none ∧ p.1.onHeap = false) {Q : ForInStep JS → Shared → Prop}
    (h : Q (.yield (b.1.push (arr p), b.2 ++ [(.bytes (arr p) tk, none)])) s) : wpAny (model prog w) A (bodyJ a xs.toArray.size i b) Q E s := by
  have seqI : ∀ {Q : Option (Array Value) → Shared → Prop} {A E}, Q (some xs.toArray) s → wpAny (model prog w) A (seqItems? (.ref a)) Q E s := fun h => by
    unfold seqItems?
    exact wpAny_bind (wpAny_load ho (wpAny_pure h))
  have hx' : xs.toArray.getD i .none = .bytes (arr p) tk := by
    simp [Array.getD_eq_getD_getElem?, hx]
  have hany : (Bytes.Kind.bytes == Bytes.Kind.bytearray || b.2.any fun x => x.1.onHeap) = false := by
    have : (b.2.any fun x => x.1.onHeap) = false := by
      rw [List.any_eq_false]; intro q hq; rw [(hb2 q hq).2]; exact Bool.false_ne_true
    rw [this]; rfl
  unfold bodyJ
  refine wpAny_bind (seqI ?_)
  dsimp only
  rw [hx', if_neg (by rw [hany]; exact Bool.false_ne_true)]
  refine wpAny_bind (wpAny_holding (wpAny_of_eq takeBufferQuiet_eq ?_))
  refine wpAny_bind (seqI ?_)
  dsimp only
  rw [if_neg (by simp)]
  exact wpAny_pure h
theorem tailJ_ok {sep : List Nat} {t : Tok} {ps : List (List Nat)} {r : JS} {Q : PySem.Fin → Shared → Prop} (hall : r.1.toList = ps.map arr) (hr2 : ∀ p ∈ r.2, p.2 = none) (hn : (joinS sep ps).length ≤ 16777216)
    (hq : ∀ t' k, Q (.done (.ret (.bytes (arr (joinS sep ps)) t'))) { s with toks := k }) : wpAny (model prog w) A (tailJ sep t r) Q E s := by
  have hsize : r.1.foldl (fun x1 x2 => x1 + x2.size) ((arr sep).size * (r.1.size - 1)) = (joinS sep ps).length := by
    have h1 : r.1.size = ps.length := by rw [← Array.length_toList, hall, List.length_map]
    rw [← Array.foldl_toList, hall, foldl_sizes, h1, joinS_length]
    simp; (clear h1 hall hr2 hq hn; (first | lia | omega))
  have hj3 : Bytes.joined (arr sep) r.1.toList = arr (joinS sep ps) := by
    rw [hall]
    have : ps.map arr = (ps.map (·.map UInt8.ofNat)).map List.toArray := by rw [List.map_map]; rfl
    rw [this]
    show Bytes.joined (sep.map UInt8.ofNat).toArray _ = _
    rw [joined_eq, joinB_map]
  unfold tailJ
  refine wpAny_bind (wpAny_of_eq (a := arr sep) rfl ?_)
  rw [if_neg (by rw [hsize, PySem.W.KBy.tooLong_not hn]; exact Bool.false_ne_true), hj3]
  refine wpAny_bind ?_
  show wpAny _ _ (mkBytes _) _ _ _
  refine wpAny_mkBytes ?_ (by rw [List.size_toArray, List.length_map]; exact size_ok hn)
  refine wpAny_bind (wpAny_holding (wpAny_point ?_))
  refine wpAny_bind (wpAny_joinLetGo hr2 ?_)
  exact wpAny_pure (hq _ _)
theorem longJ_ok {sep : List Nat} {t : Tok} {a : Addr} {ps : List (List Nat)} {xs : List Value} {n : Nat} {z : Z} {Q : PySem.Fin → Shared → Prop} (hr : RepL z (ps.map (.txt true)) xs) (hn : (joinS sep ps).length ≤ 16777216) (ho : s.heap.get? a = some (lstO xs n))
    (hq : ∀ t' k, Q (.done (.ret (.bytes (arr (joinS sep ps)) t'))) { s with toks := k }) : wpAny (model prog w) A (longJ sep t a xs.toArray.size) Q E s := by
  have hlen : xs.length = ps.length := by rw [hr.length, List.length_map]
  unfold longJ
  refine wpAny_bind ?_
  rw [Std.Legacy.Range.forIn_eq_forIn_range']
  refine wpAny_forIn_list _ (fun rest b s' => s' = s ∧ ∃ i, rest = List.range' i (xs.length - i) ∧ i ≤ xs.length ∧ b.1.toList = (ps.take i).map arr ∧ (∀ p ∈ b.2, p.2 = none ∧ p.1.onHeap = false)) _ ?_ ?_ _ _ ⟨rfl, 0, ?_, Nat.zero_le _, by simp, by simp⟩
  · rintro i rest b s' ⟨rfl, j, hrest, hj, hb1, hb2⟩
    have hlt : j < xs.length := by
      rcases Nat.lt_or_ge j xs.length with h | h
      · exact h
      · rw [Nat.sub_eq_zero_of_le h] at hrest; cases hrest
    have hij : i = j ∧ rest = List.range' (j + 1) (xs.length - (j + 1)) := by
      rw [sub_step (by assumption), List.range'_succ] at hrest
      exact List.cons.inj hrest
    obtain ⟨rfl, hrest'⟩ := hij
    obtain ⟨p, hp⟩ : ∃ p, ps[i]? = some p := ⟨_, List.getElem?_eq_getElem (hlen ▸ hlt)⟩
    obtain ⟨tk, hx, hp256⟩ := hr.bytesAt hp
    refine bodyJ_ok ho hx hb2 ⟨rfl, i + 1, hrest', hlt, ?_, fun q hq => ?_⟩
    · rw [Array.toList_push, hb1, List.take_add_one, hp]; simp
    · rcases List.mem_append.mp hq with hq | hq
      · exact hb2 q hq
      · rw [List.mem_singleton] at hq; subst hq; exact ⟨rfl, rfl⟩
  · rintro b s' ⟨rfl, j, hrest, hj, hb1, hb2⟩
    have hj2 : j = xs.length := by
      rcases Nat.lt_or_ge j xs.length with h | h
      · rw [sub_step (by assumption), List.range'_succ] at hrest; cases hrest
      · exact Nat.le_antisymm hj h
    exact tailJ_ok (by rw [hb1, hj2, hlen, List.take_length]) (fun p hp => (hb2 p hp).1) hn hq
  · simp
theorem meets_bytes_join {sep : List Nat} {t : Tok} {a : Addr} {ps : List (List Nat)} {xs : List Value} {n : Nat} {z : Z} (hr : RepL z (ps.map (.txt true)) xs) (hs : ∀ c ∈ sep, c < 256) (hn : (joinS sep ps).length ≤ 16777216) :
    Meets («bytes.join» ⟨[.bytes (arr sep) t, .ref a], []⟩) (fun _ R s => s.heap.get? a = some (lstO xs n) ∧ ∀ t' k, R (.ok (.ret (.bytes (arr (joinS sep ps)) t'))) { s with toks := k }) := by
  refine .of_wp fun prog w A R s hS => ?_
  obtain ⟨ho, hq⟩ := hS
  have hlen : xs.length = ps.length := by rw [hr.length, List.length_map]
  have hT : s.TypeIs (.ref a) "list" := ⟨_, ho, rfl⟩
  show wpAny (model prog w) A.in1 (Bytes.joinItems (.ref a) >>= fun seq => _) _ _ s
  refine wpAny_bind ?_
  unfold Bytes.joinItems
  refine wpAny_bind (wpAny_typeOf hT ?_)
  refine wpAny_ite ?_
  rw [if_pos (by rfl)]
  refine wpAny_pure ?_
  have seqI : ∀ {Q : Option (Array Value) → Shared → Prop} {A E}, Q (some xs.toArray) s → wpAny (model prog w) A (seqItems? (.ref a)) Q E s := fun h => by
    unfold seqItems?
    exact wpAny_bind (wpAny_load ho (wpAny_pure h))
  refine wpAny_bind (seqI ?_)
  show wpAny _ _ (if (Bytes.Kind.bytes == Bytes.Kind.bytes) = true then (match xs.toArray with
      | #[x] => (do let k ← typeOf x; if (k == Value.type "bytes") = true then (do rule "bytes.join.one-item"; ret x) else longJ sep t a xs.toArray.size)
      | _ => longJ sep t a xs.toArray.size) else longJ sep t a xs.toArray.size) _ _ s
  rw [if_pos (show (Bytes.Kind.bytes == Bytes.Kind.bytes) = true from rfl)]
  have long := longJ_ok (prog := prog) (w := w) (A := A.in1) (E := fun e s' => R (.error e) s') (sep := sep) (t := t) (Q := fun fin s' => ∃ v, fin = .done (.ret v) ∧ R (.ok (.ret v)) s') hr hn ho (fun t' k => ⟨_, rfl, hq t' k⟩)
  generalize longJ sep t a xs.toArray.size = T at long ⊢
  by_cases h1 : xs.length = 1
  · obtain ⟨x, rfl⟩ := List.length_eq_one_iff.mp h1
    obtain ⟨p, rfl⟩ : ∃ p, ps = [p] := List.length_eq_one_iff.mp (by rw [← hlen, h1])
    obtain ⟨tk, hx, hp256⟩ := hr.bytesAt (i := 0) rfl
    obtain rfl := Option.some.inj hx
    refine wpAny_bind (wpAny_typeOf (PySem.W.typeIs_bytes s _ tk) ?_)
    refine wpAny_ite ?_
    rw [if_pos (by rfl)]
    exact wpAny_bind (wpAny_rule (wpAny_pure ⟨_, rfl, hq tk s.toks⟩))
  · cases xs with
    | nil => exact long
    | cons x r =>
      cases r with
      | nil => exact absurd rfl h1
      | cons y r => exact long
end
end
end PL

end
section
open PySem PySem.Calls PyProof.Rows
set_option Elab.async false
set_option linter.unusedVariables false
set_option linter.unusedSimpArgs false
namespace PL

section
variable {C : Cx} {X : XP} {σ : St} {Q : V → St → Prop} {o : Bool} {l m : List Nat} {i : Int} {c : Nat}

theorem strlen {l : List Nat} : (⟨l.toArray⟩ : Str).length = l.length := by simp [Str.length]
theorem str_app (l m : List Nat) : (⟨l.toArray⟩ : Str) ++ ⟨m.toArray⟩ = ⟨(l ++ m).toArray⟩ := Str.ext' (by simp [Str.cps_append])
theorem arr_app (l m : List Nat) : arr l ++ arr m = arr (l ++ m) := by simp [arr]

theorem Bin.add_txt (hn : l.length + m.length ≤ 16777216) (h : Q (.txt o (l ++ m)) σ) : Bin C .Add (.txt o l) (.txt o m) Q X σ := by
  intro z₀ x y rx ry zs z s hz hR
  have rxq := rx.txt_; clear rx; rcases rxq with ⟨rfl, t, rfl⟩ | ⟨rfl, t, rfl, hl⟩
  · have ryq := ry.e; clear ry; obtain ⟨u, rfl⟩ := ryq
    refine SB.add (fun t' k => ?_) (by rw [strlen, strlen]; exact size_ok hn)
    rw [str_app]
    exact PVal.toks hR (.str _ _) h
  · have ryq := ry.e; clear ry; obtain ⟨u, rfl, hm⟩ := ryq
    refine PySem.W.KBy.add_bytes (by simpa using hn) fun t' k => ?_
    rw [arr_app]
    exact PVal.toks hR (.bytes _ _ fun c hc => (List.mem_append.mp hc).elim (hl c) (hm c)) h
theorem Inp.add_str (hn : l.length + m.length ≤ 16777216) (h : Q (.txt false (l ++ m)) σ) : Inp C .Add (.txt false l) (.txt false m) Q X σ := by
  intro z₀ x y rx ry zs z s hz hR
  have rxq := rx.e; clear rx; obtain ⟨t, rfl⟩ := rxq
  have ryq := ry.e; clear ry; obtain ⟨u, rfl⟩ := ryq
  refine SB.iadd (fun t' k => ?_) (by rw [strlen, strlen]; exact size_ok hn)
  rw [str_app]
  exact PVal.toks hR (.str _ _) h

theorem fold_rep (l : List Nat) : ∀ (n : Nat) (acc : List Nat), (List.replicate n l.toArray).foldl (· ++ ·) acc.toArray = (acc ++ (List.replicate n l).flatten).toArray
  | 0, acc => by simp
  | n + 1, acc => by
    rw [List.replicate_succ, List.foldl_cons, List.append_toArray, fold_rep l n (acc ++ l), List.replicate_succ, List.flatten_cons, List.append_assoc]
theorem txt_mul (l : List Nat) (n : Int) : Txt.mul ⟨l.toArray⟩ n = ⟨((List.replicate n.toNat l).flatten).toArray⟩ := by
  unfold Txt.mul
  by_cases h1 : n < 1
  · rw [if_pos h1]
    have : n.toNat = 0 := by (clear l; (first | lia | omega))
    rw [this]; rfl
  · rw [if_neg h1]
    by_cases h2 : (n == 1 || (⟨l.toArray⟩ : Str).length == 0) = true
    · rw [if_pos h2]
      simp only [Bool.or_eq_true, beq_iff_eq, strlen] at h2
      rcases h2 with h2 | h2
      · subst h2; simp
      · have : l = [] := List.length_eq_zero_iff.mp h2
        subst this; simp
    · rw [if_neg h2]
      have := fold_rep l n.toNat []
      rw [List.nil_append] at this
      rw [← this]
/-- a text of one sign, over and over -/
theorem Bin.mul_txt (hlo : -1048576 ≤ i) (hhi : i ≤ 1048576) (h : Q (.txt o (List.replicate i.toNat c)) σ) : Bin C .Mult (.txt o [c]) (.int i) Q X σ := by
  intro z₀ x x0 rx w0 zs z s hz hR
  have w0q := w0.e; clear w0; obtain ⟨_, rfl⟩ := w0q
  have e : (List.replicate i.toNat [c]).flatten = List.replicate i.toNat c := by
    generalize i.toNat = n
    induction n with
    | zero => rfl
    | succ n ih => rw [List.replicate_succ, List.flatten_cons, ih, List.replicate_succ]; rfl
  have rxq := rx.txt_; clear rx; rcases rxq with ⟨rfl, t, rfl⟩ | ⟨rfl, t, rfl, hl⟩
  · refine SB.mul (mulOk_of 1 1048576 (by simp [Str.length]) (by (clear h t e hR hz s z zs z₀ hlo c Q σ X C; (first | lia | omega))) (by (clear h t e hR hz s z zs z₀ c Q σ X C hhi; (first | lia | omega))) (by decide) (by decide)) fun t' k => ?_
    rw [txt_mul, e]
    exact PVal.toks hR (.str _ _) h
  · refine PySem.W.bytes_mul_any (by simp) hlo hhi (by simp) fun t' k => ?_
    have e2 : (List.replicate i.toNat (List.map UInt8.ofNat [c])).flatten = (List.replicate i.toNat c).map UInt8.ofNat := by
      rw [← e, List.map_flatten, List.map_replicate]
    rw [e2]
    refine PVal.toks hR (.bytes _ _ fun d hd => ?_) h
    rw [(List.mem_replicate.mp hd).2]
    exact hl c List.mem_cons_self

/-! methods of texts -/
theorem call_rfind_str (h : Q (.int ((cut c l : Int) - 1)) σ) : CallV C (.builtin "str.rfind") [.txt false l, .txt false [c]] Q X σ := by
  refine CallV.toks ?_
  intro z₀ zs z s xs hz hR r
  have rq := RepL.inv r; clear r; obtain ⟨_, _, rfl, r1, r⟩ := rq
  have r1q := r1.e; clear r1; obtain ⟨t, rfl⟩ := r1q
  have rq := RepL.inv r; clear r; obtain ⟨_, _, rfl, r2, r⟩ := rq
  have r2q := r2.e; clear r2; obtain ⟨u, rfl⟩ := r2q
  cases r.inv0; clear r
  refine SC.rfind ?_
  rw [str_rfind]
  exact PVal.toks hR (.int _ _) h
theorem call_rfind_bytes (h : Q (.int ((cut c l : Int) - 1)) σ) : CallV C (.builtin "bytes.rfind") [.txt true l, .txt true [c]] Q X σ := by
  refine CallV.toks ?_
  intro z₀ zs z s xs hz hR r
  have rq := RepL.inv r; clear r; obtain ⟨_, _, rfl, r1, r⟩ := rq
  have r1q := r1.e; clear r1; obtain ⟨t, rfl, hl⟩ := r1q
  have rq := RepL.inv r; clear r; obtain ⟨_, _, rfl, r2, r⟩ := rq
  have r2q := r2.e; clear r2; obtain ⟨u, rfl, hc⟩ := r2q
  cases r.inv0; clear r
  exact call_bytes_rfind hl (hc c List.mem_cons_self) (PVal.toks hR (.int _ _) h)
theorem str_rstrip (l : List Nat) (c : Nat) : Txt.rstripChars ⟨l.toArray⟩ ⟨#[c]⟩ = ⟨(rstripS c l).toArray⟩ := by
  unfold Txt.rstripChars Txt.stripBy
  have eg : (⟨#[c]⟩ : Str).cps.contains = fun x => x == c := by
    funext x
    rw [Bool.eq_iff_iff]
    simp
  rw [eg]
  have key : l.length - (l.reverse.takeWhile (fun x => x == c)).length = (rstripS c l).length := by
    unfold rstripS
    rw [List.length_reverse]
    have h := congrArg List.length (List.takeWhile_append_dropWhile (p := fun x => x == c) (l := l.reverse))
    rw [List.length_append, List.length_reverse] at h
    (clear eg; (first | lia | omega))
  have hhi : stripHi (fun x => x == c) true ⟨l.toArray⟩ 0 = (rstripS c l).length := by
    show (⟨l.toArray⟩ : Str).length - _ = _
    rw [strlen]; simpa using key
  have hpre : rstripS c l = l.take (rstripS c l).length := by
    have h := List.takeWhile_append_dropWhile (p := fun x => x == c) (l := l.reverse)
    have h2 := congrArg List.reverse h
    rw [List.reverse_append, List.reverse_reverse] at h2
    have h3 : l = rstripS c l ++ (l.reverse.takeWhile (fun x => x == c)).reverse := h2.symm
    generalize rstripS c l = r at h3 ⊢
    rw [h3]; simp
  have hlo : stripLo (fun x => x == c) false ⟨l.toArray⟩ = 0 := rfl
  unfold stripSame stripped
  rw [hlo, hhi, strlen]
  by_cases h : ((0 : Nat) == 0 && (rstripS c l).length == l.length) = true
  · rw [if_pos h]
    simp only [Bool.and_eq_true, beq_iff_eq] at h
    rw [rstripS_same h.2]
  · rw [if_neg h]
    apply Str.ext'
    show ((⟨l.toArray⟩ : Str).cps.extract 0 (rstripS c l).length) = _
    conv => rhs; rw [hpre]
    simp [List.extract_toArray, List.extract_eq_take_drop]
theorem call_rstrip_str (hn : l.length ≤ 16777216) (h : Q (.txt false (rstripS c l)) σ) : CallV C (.builtin "str.rstrip") [.txt false l, .txt false [c]] Q X σ := by
  refine CallV.toks ?_
  intro z₀ zs z s xs hz hR r
  have rq := RepL.inv r; clear r; obtain ⟨_, _, rfl, r1, r⟩ := rq
  have r1q := r1.e; clear r1; obtain ⟨t, rfl⟩ := r1q
  have rq := RepL.inv r; clear r; obtain ⟨_, _, rfl, r2, r⟩ := rq
  have r2q := r2.e; clear r2; obtain ⟨u, rfl⟩ := r2q
  cases r.inv0; clear r
  refine SC.rstripChars (fun t' k => ?_) (by rw [strlen]; exact size_ok hn)
  rw [str_rstrip]
  exact PVal.toks hR (.str _ _) h
theorem call_rstrip_bytes (hn : l.length ≤ 16777216) (h : Q (.txt true (rstripS c l)) σ) : CallV C (.builtin "bytes.rstrip") [.txt true l, .txt true [c]] Q X σ := by
  refine CallV.toks ?_
  intro z₀ zs z s xs hz hR r
  have rq := RepL.inv r; clear r; obtain ⟨_, _, rfl, r1, r⟩ := rq
  have r1q := r1.e; clear r1; obtain ⟨t, rfl, hl⟩ := r1q
  have rq := RepL.inv r; clear r; obtain ⟨_, _, rfl, r2, r⟩ := rq
  have r2q := r2.e; clear r2; obtain ⟨u, rfl, hc⟩ := r2q
  cases r.inv0; clear r
  exact call_bytes_rstrip hl (hc c List.mem_cons_self) hn fun t' k => PVal.toks hR (.bytes _ _ fun d hd => hl d (mem_rstripS hd)) h
/-- begins with a sign, ends with it -/
noncomputable def headIs (c : Nat) (l : List Nat) : Bool := l.head? == some c
noncomputable def lastIs (c : Nat) (l : List Nat) : Bool := l.getLast? == some c
theorem call_startswith_str (h : Q (.bool (headIs c l)) σ) : CallV C (.builtin "str.startswith") [.txt false l, .txt false [c]] Q X σ := by
  refine CallV.toks ?_
  intro z₀ zs z s xs hz hR r
  have rq := RepL.inv r; clear r; obtain ⟨_, _, rfl, r1, r⟩ := rq
  have r1q := r1.e; clear r1; obtain ⟨t, rfl⟩ := r1q
  have rq := RepL.inv r; clear r; obtain ⟨_, _, rfl, r2, r⟩ := rq
  have r2q := r2.e; clear r2; obtain ⟨u, rfl⟩ := r2q
  cases r.inv0; clear r
  refine SC.startswith ?_
  have e : Txt.startswith ⟨l.toArray⟩ ⟨#[c]⟩ = headIs c l := by
    rw [Bool.eq_iff_iff]
    have := at_one l c 0
    unfold StrLaws.At at this
    unfold Txt.startswith headIs
    rw [Bool.and_eq_true, decide_eq_true_eq, this, beq_iff_eq, List.head?_eq_getElem?]
  rw [show ([c] : List Nat).toArray = #[c] from rfl, e]
  exact PVal.same hR (.bool _) h
theorem call_endswith_str (h : Q (.bool (lastIs c l)) σ) : CallV C (.builtin "str.endswith") [.txt false l, .txt false [c]] Q X σ := by
  refine CallV.toks ?_
  intro z₀ zs z s xs hz hR r
  have rq := RepL.inv r; clear r; obtain ⟨_, _, rfl, r1, r⟩ := rq
  have r1q := r1.e; clear r1; obtain ⟨t, rfl⟩ := r1q
  have rq := RepL.inv r; clear r; obtain ⟨_, _, rfl, r2, r⟩ := rq
  have r2q := r2.e; clear r2; obtain ⟨u, rfl⟩ := r2q
  cases r.inv0; clear r
  refine SC.endswith ?_
  have e : Txt.endswith ⟨l.toArray⟩ ⟨#[c]⟩ = lastIs c l := by
    rw [Bool.eq_iff_iff]
    unfold Txt.endswith lastIs
    have h1 : (⟨#[c]⟩ : Str).length = 1 := rfl
    rw [h1, strlen, Bool.and_eq_true, decide_eq_true_eq, beq_iff_eq, List.getLast?_eq_getElem?]
    by_cases hl : 1 ≤ l.length
    · have := at_one l c (l.length - 1)
      unfold StrLaws.At at this
      rw [h1, strlen] at this
      rw [← this]
      constructor
      · rintro ⟨_, h⟩; exact ⟨by (first | lia | omega), h⟩
      · rintro ⟨_, h⟩; exact ⟨by (first | lia | omega), h⟩
    · have : l = [] := List.length_eq_zero_iff.mp (by (clear h1 u t hR hz s z zs z₀ h; (first | lia | omega)))
      subst this; simp
  rw [show ([c] : List Nat).toArray = #[c] from rfl, e]
  exact PVal.same hR (.bool _) h
end
end PL

end
section
open PySem PySem.Calls PyProof.Rows
set_option Elab.async false
set_option linter.unusedVariables false
set_option linter.unusedSimpArgs false
namespace PL

noncomputable abbrev XL := String → Led → Prop

/-- what a call of a function does, for every caller -/
noncomputable def CallT (g : Gd) (n : Nat) (f : Value) (vs : List V) (Q : V → Led → Prop) (X : XL) (H : Led) : Prop :=
  ∀ (A : Around) (outer : List Env) (zs z : Z) (s : Shared) (xs : List Value), A.depth + n ≤ 900 → A.units + 20 * n ≤ 9000 → A.frames = some outer → A.handled = none → FrOK outer zs → RH g zs H z s → RepL z vs xs →
    codeAny (model g.prog g.w) A (.call f ⟨xs, []⟩) (fun r s' => match r with
      | .ok (.ret val) => ∃ z' H' v, Z.le z z' ∧ RH g zs H' z' s' ∧ Rep z' v val ∧ Q v H'
      | .ok _ => False
      | .error e => ∃ z' H' cls, Z.le z z' ∧ RH g zs H' z' s' ∧ Fly g zs H' z' outer s' e cls ∧ X cls H') s

theorem Fly.mono {g : Gd} {zs zs' : Z} {H : Led} {z : Z} {fr : List Env} {s : Shared} {e : Value} {cls : String} (h : ∀ b o, zs b = some o → zs' b = some o) (F : Fly g zs' H z fr s e cls) : Fly g zs H z fr s e cls := by
  obtain ⟨a, B, he, F⟩ := F
  exact ⟨a, B, he, F.stays, F.new, F.frames, F.hz, F.led, fun b o q => F.hid b o (h b o q), F.track⟩
theorem RH.slots {g : Gd} {zs : Z} {H : Led} {z : Z} {s : Shared} {h' B : Heap} (r : RH g zs H z s) (k : B.StaysIn h') (hz : ∀ b o, z b = some o → B.get? b = some o) (hH : ∀ p ∈ H, AOK g z B p.1 p.2)
    (hid : ∀ b o, zs b = some o → (∀ vs ep, o.data ≠ .dict vs ep) → B.get? b = some o) (u : s.heap.UpToSlots h') : RH g zs H z { s with heap := h' } where
  hz b o e := k b o (hz b o e)
  hbase := r.hbase
  hzs b o e := by
    by_cases hd : ∀ vs ep, o.data ≠ .dict vs ep
    · exact ⟨o.slots, k b o (hid b o e hd), fun _ => rfl⟩
    · obtain ⟨sl, q, w⟩ := r.hzs b o e
      have hd' : ∃ vs ep, o.data = .dict vs ep := Classical.byContradiction fun q => hd fun vs ep e => q ⟨vs, ep, e⟩
      obtain ⟨vs, ep, hd'⟩ := hd'
      obtain ⟨sl', q'⟩ := u b _ q fun ws e => by rw [show ({ o with slots := sl } : Obj).data = o.data from rfl, hd'] at e; cases e
      exact ⟨sl', q', fun q => absurd hd' (q vs ep)⟩
  disj := r.disj
  hH p hp := ⟨(hH p hp).keep (k _), (r.hH p hp).2⟩
  nodup := r.nodup
  gens := r.gens
  os := r.os
theorem leave_fly {M : Model} {A : Around} {env : Env} {outer : List Env} {L : Addr} {g : Gd} {zs : Z} {H : Led} {z : Z} {s : Shared} {e : Value} {cls : String} {Q : Unit → Shared → Prop} {E : Value → Shared → Prop}
    (hfr : A.frames = some (env :: outer)) (hf : env.frame = some L) (F : Fly g zs H z (env :: outer) s e cls) (r : RH g zs H z s)
    (hQ : ∀ h', RH g zs H z { s with heap := h' } → Fly g zs H z outer { s with heap := h' } e cls → Q () { s with heap := h' }) : wpAny M A (leaving env e) Q E s := by
  obtain ⟨a, B, rfl, F⟩ := F
  have fin : ∀ h' a0, Heap.LeftW B (env :: outer) a (.type cls) a0 s.heap h' → Q () { s with heap := h' } := by
    rintro h' a0 ⟨k1, k2, k3, k4⟩
    exact hQ h' (r.slots k1 F.hz F.led F.hid k4) ⟨a, B, rfl, k1, F.new, k2.2.2, F.hz, F.led, F.hid, .inr (.inl ⟨a0, k3⟩)⟩
  rcases F.track with ⟨oe, vs, a0, h1, h2, h3, h4, h5, _⟩ | ⟨a0, tr⟩ | ⟨env', rest, L', a0, e1, e2, tr⟩
  · exact wpAny_leaving_firstW hfr F.frames hf h1 F.stays F.new h3 h4 h5 fun h' k => fin h' a0 (h2 ▸ k)
  · exact wpAny_leaving_nextW hfr F.frames hf tr F.stays F.new fun h' k => fin h' a0 k
  · cases e1
    rw [hf] at e2; cases e2
    show wpAny M A (do noteFrame (.ref a) env; setFlight (.ref a) none) Q E s
    refine wpAny_bind (wpAny_noteFrame_againW hf tr ?_)
    exact wpAny_setFlight_noneW F.stays F.frames tr fun h' k1 k2 k3 k4 => fin h' a0 ⟨k1, k2, k3, fun b o hb hn => ⟨o.slots, k4 b o hb hn⟩⟩

section
variable {C : Cx} {σ : St} {zs z : Z} {s : Shared}

/-- the caller's own frame and cells, hidden -/
noncomputable def hid (C : Cx) (zs : Z) (h : Heap) : Z := fun b => if b = C.env.locals ∨ b ∈ C.env.cells.map (·.2) then h.get? b else zs b
theorem hid_of {b : Addr} {o : Obj} (hR : R C zs σ z s) (h : zs b = some o) : hid C zs s.heap b = some o := by
  unfold hid
  split
  · rename_i e
    rcases e with e | e
    · subst e; rw [hR.locFree.2.1] at h; cases h
    · obtain ⟨p, hp, rfl⟩ := List.mem_map.mp e
      obtain ⟨⟨ov, oc, e1, e2⟩, _⟩ := hR.cellsOk p hp
      obtain ⟨sl, e3, e4⟩ := hR.rh.hzs _ _ h
      rw [e1] at e3
      have e5 : oc = { o with slots := sl } := Option.some.inj e3
      have e6 : o.data = .cell ov := by rw [e5] at e2; exact e2
      rw [e1, e5, e4 (fun vs ep e7 => by rw [e6] at e7; cases e7)]
  · exact h
theorem hid_none {b : Addr} (h1 : b ≠ C.env.locals) (h2 : b ∉ C.env.cells.map (·.2)) (h3 : zs b = none) {h : Heap} : hid C zs h b = none := by
  unfold hid; rw [if_neg (by rintro (e | e) <;> contradiction)]; exact h3
theorem R.hide (hR : R C zs σ z s) : RH C.g (hid C zs s.heap) σ.H z s where
  hz := hR.rh.hz
  hbase := hR.rh.hbase
  hzs b o h := by
    unfold hid at h
    split at h
    · exact ⟨o.slots, h, fun _ => rfl⟩
    · exact hR.rh.hzs b o h
  disj b o h := by
    unfold hid at h
    split at h
    · rename_i e
      rcases e with e | e
      · subst e; exact hR.locFree.1
      · obtain ⟨p, hp, rfl⟩ := List.mem_map.mp e
        exact (hR.cellsOk p hp).2.1
    · exact hR.rh.disj b o h
  hH p hp := by
    obtain ⟨a, b, c⟩ := hR.rh.hH p hp
    refine ⟨a, b, hid_none (fun e => hR.locFree.2.2 (e ▸ List.mem_map_of_mem (f := (·.1)) hp)) (fun e => ?_) c⟩
    obtain ⟨q, hq, e⟩ := List.mem_map.mp e
    exact (hR.cellsOk q hq).2.2.2.2 (e ▸ List.mem_map_of_mem (f := (·.1)) hp)
  nodup := hR.rh.nodup
  gens := hR.rh.gens
  os := hR.rh.os
theorem ns_slots {h h' : Heap} {L : Addr} {m : Str → Option Value} (n : h.Ns L m) (k : ∀ o, h.get? L = some o → ∃ sl, h'.get? L = some { o with slots := sl }) : h'.Ns L m := by
  obtain ⟨o, es, ep, a, b, c⟩ := n
  obtain ⟨sl, e⟩ := k o a
  exact ⟨_, es, ep, e, b, c⟩
theorem cell_slots {h h' : Heap} {c : Addr} {v : Option Value} (n : h.IsCell c v) (k : ∀ o, h.get? c = some o → ∃ sl, h'.get? c = some { o with slots := sl }) : h'.IsCell c v := by
  obtain ⟨o, a, b⟩ := n
  obtain ⟨sl, e⟩ := k o a
  exact ⟨_, e, b⟩
/-- back in the caller -/
theorem R.back (hR : R C zs σ z s) {H' : Led} {z' : Z} {s' : Shared} (l : Z.le z z') (r : RH C.g (hid C zs s.heap) H' z' s') : R C zs ⟨σ.loc, H'⟩ z' s' := by
  have own : ∀ b, (b = C.env.locals ∨ b ∈ C.env.cells.map (·.2)) → ∀ o, s.heap.get? b = some o → hid C zs s.heap b = some o := by
    intro b hb o ho
    unfold hid; rw [if_pos hb]; exact ho
  have keep : ∀ b, (b = C.env.locals ∨ b ∈ C.env.cells.map (·.2)) → ∀ o, s.heap.get? b = some o → ∃ sl, s'.heap.get? b = some { o with slots := sl } := fun b hb o ho => let ⟨sl, q, _⟩ := r.hzs b o (own b hb o ho); ⟨sl, q⟩
  have free : ∀ b, (b = C.env.locals ∨ b ∈ C.env.cells.map (·.2)) → ∀ o, s.heap.get? b = some o → z' b = none ∧ b ∉ H'.map (·.1) := by
    intro b hb o ho
    refine ⟨r.disj b o (own b hb o ho), fun e => ?_⟩
    obtain ⟨p, hp, rfl⟩ := List.mem_map.mp e
    have := (r.hH p hp).2.2
    rw [own _ hb o ho] at this; cases this
  obtain ⟨m, hn, hm⟩ := hR.ns
  have hL : ∃ o, s.heap.get? C.env.locals = some o := let ⟨o, _, _, a, _⟩ := hn; ⟨o, a⟩
  obtain ⟨oL, hL⟩ := hL
  refine ⟨⟨r.hz, r.hbase, fun b o h => r.hzs b o (hid_of hR h), fun b o h => r.disj b o (hid_of hR h), fun p hp => ?_, r.nodup, r.gens, r.os⟩, ⟨m, ns_slots hn (keep _ (.inl rfl)), fun x v a b => ?_⟩, fun x v a b => ?_, fun p hp => ?_, ?_, hR.fr⟩
  · obtain ⟨a, b, c⟩ := r.hH p hp
    refine ⟨a, b, ?_⟩
    cases e : zs p.1 with
    | none => rfl
    | some o => rw [hid_of hR e] at c; cases c
  · obtain ⟨val, p, q⟩ := hm x v a b
    exact ⟨val, p, q.mono l⟩
  · obtain ⟨c, val, p, q, w⟩ := hR.cells x v a b
    exact ⟨c, val, p, cell_slots q (keep c (.inr (List.mem_map_of_mem (f := (·.2)) (mem_of_lookup p)))), w.mono l⟩
  · obtain ⟨⟨ov, a⟩, _, c, d, _⟩ := hR.cellsOk p hp
    have hm' : p.2 = C.env.locals ∨ p.2 ∈ C.env.cells.map (·.2) := .inr (List.mem_map_of_mem (f := (·.2)) hp)
    obtain ⟨o, ho, _⟩ := id a
    obtain ⟨f1, f2⟩ := free _ hm' o ho
    exact ⟨⟨ov, cell_slots a (keep _ hm')⟩, f1, c, d, f2⟩
  · obtain ⟨f1, f2⟩ := free _ (.inl rfl) oL hL
    exact ⟨f1, hR.locFree.2.1, f2⟩

theorem CallV.fn {X : XP} {Q : V → St → Prop} {f : Value} {vs : List V} {n : Nat} (hn : n ≤ C.n) (hh : C.A.handled = none)
    (h : CallT C.g n f vs (fun v H' => Q v ⟨σ.loc, H'⟩) (fun cls H' => X cls ⟨σ.loc, H'⟩) σ.H) : CallV C f vs Q X σ := by
  intro z₀ xs r zs z s hz hR
  have hd := C.hdep
  have hu := C.hunits
  have hfr : ∃ fr, C.A.frames = some fr ∧ FrOK fr (hid C zs s.heap) := by
    have ho : FrOK C.outer (hid C zs s.heap) := ⟨fun e he => let ⟨a, L, o, b, c, d⟩ := hR.fr.ok e he; ⟨a, L, o, b, hid_of hR c, d⟩⟩
    rcases C.hframes with ⟨a, b⟩ | a
    · refine ⟨_, a, ⟨fun e he => ?_⟩⟩
      rcases List.mem_cons.mp he with rfl | he
      · obtain ⟨m, ⟨oL, es, ep, hL, hdt, _⟩, _⟩ := hR.ns
        refine ⟨by rw [C.hk]; decide, _, oL, b, ?_, _, _, hdt⟩
        unfold hid; rw [if_pos (.inl rfl)]; exact hL
      · exact ho.ok e he
    · exact ⟨_, a, ho⟩
  obtain ⟨fr, hfr1, hfr2⟩ := hfr
  refine wpAny_call (codeAny_mono (h C.A fr _ z s xs (by (clear hfr2 hfr1 fr hu hR hz s z zs r xs z₀ h hh vs f Q X; (first | lia | omega))) (by (clear hfr2 hfr1 fr hd hR hz s z zs r xs z₀ h hh vs f Q X; (first | lia | omega))) hfr1 hh hfr2 hR.hide (r.mono hz)) ?_)
  rintro res s' hres
  cases res with
  | ok fl =>
    cases fl with
    | ret val =>
      obtain ⟨z', H', v, l, r', rv, q⟩ := hres
      exact ⟨z', _, l, hR.back l r', v, rv, q⟩
    | _ => exact hres
  | error e =>
    obtain ⟨z', H', cls, l, r', fl, x⟩ := hres
    exact ⟨z', _, cls, fr, l, hR.back l r', hfr1, fl.mono fun b o q => hid_of hR q, x⟩
end

/-- the names of a call, bound -/
noncomputable def bindV : List (Str × V) → List (Str × V) → List (Str × V)
  | [], l => l
  | (x, v) :: r, l => bindV r (setL l x v)

inductive RepB (z : Z) : List (Str × V) → List (Str × Value) → Prop
  | nil : RepB z [] []
  | cons {x : Str} {v : V} {val : Value} {l : List (Str × V)} {b : List (Str × Value)} (h : Rep z v val) (t : RepB z l b) : RepB z ((x, v) :: l) ((x, val) :: b)
theorem RepB.zip {z : Z} : ∀ (ns : List Str) {vs : List V} {xs : List Value}, RepL z vs xs → RepB z (ns.zip vs) (ns.zip xs)
  | [], _, _, _ => by simp; exact .nil
  | n :: ns, [], _, r => by cases r.inv0; exact .nil
  | n :: ns, v :: vs, _, r => by obtain ⟨x, xs, rfl, h, t⟩ := r.inv; exact RepB.cons h (RepB.zip ns t)

theorem bind_reps {z : Z} {kindOf : Str → Option NameKind} {lv : List (Str × V)} {bs : List (Str × Value)} (rb : RepB z lv bs) : ∀ (loc : List (Str × V)) (m cm : Str → Option Value),
    (∀ x v, loc.lookup x = some v → kindOf x = some .local → ∃ val, m x = some val ∧ Rep z v val) → (∀ x v, loc.lookup x = some v → kindOf x ≠ some .local → ∃ val, cm x = some val ∧ Rep z v val) →
    (∀ x v, (bindV lv loc).lookup x = some v → kindOf x = some .local → ∃ val, bindL kindOf bs m x = some val ∧ Rep z v val) ∧
    (∀ x v, (bindV lv loc).lookup x = some v → kindOf x ≠ some .local → ∃ val, bindC kindOf bs cm x = some val ∧ Rep z v val) := by
  induction rb with
  | nil => intro loc m cm h1 h2; exact ⟨h1, h2⟩
  | @cons y v val lv bs r t ih =>
    intro loc m cm h1 h2
    unfold bindV bindL bindC
    refine ih _ _ _ ?_ ?_
    · intro x w hx hk
      rw [lookup_setL] at hx
      by_cases e : x = y
      · subst e; rw [if_pos rfl] at hx; cases hx
        rw [if_pos hk]; exact ⟨val, by simp, r⟩
      · rw [if_neg e] at hx
        obtain ⟨u, p, q⟩ := h1 x w hx hk
        refine ⟨u, ?_, q⟩
        split
        · simp [e, p]
        · exact p
    · intro x w hx hk
      rw [lookup_setL] at hx
      by_cases e : x = y
      · subst e; rw [if_pos rfl] at hx; cases hx
        rw [if_neg hk]; exact ⟨val, by simp, r⟩
      · rw [if_neg e] at hx
        obtain ⟨u, p, q⟩ := h2 x w hx hk
        refine ⟨u, ?_, q⟩
        split
        · exact p
        · simp [e, p]

/-- a frame of a function whose table is `sc` -/
structure In (C : Cx) (g : Gd) (n : Nat) (sc : Scope) : Prop where
  g : C.g = g
  n : C.n = n
  kind : ∀ x, C.env.kindOf x = sc.names.lookup x
  cell : ∀ x, sc.names.lookup x = some .cell → ∃ c, C.env.cells.lookup x = some c
  calm : C.A.handled = none
  fn : C.env.scope = sc
  gl : C.env.globals = mainGlobals

/-- a def of the text -/
structure FnB (g : Gd) (a : Addr) (fd : FuncData) (body : List Stmt) (sc : Scope) : Prop where
  at_ : ∃ o, g.base.get? a = some o ∧ o.data = .func fd
  code : g.base.CodeRec fd.code fd.qualname
  body : fd.body = .stmts body
  closure : fd.closure = []
  scope : fd.scope = sc
  globals : fd.globals = mainGlobals
  builtins : fd.builtins = builtinsNs
  kind : sc.kind = .function
  co : sc.isCoroutine = false
  gen : sc.isGenerator = false
  nodup : ((cellsFrom 0 sc.names []).map (·.1)).Nodup
/-- one with plain parameters -/
structure IsFn (g : Gd) (a : Addr) (fd : FuncData) (body : List Stmt) (sc : Scope) (params : List Str) : Prop where
  b : FnB g a fd body sc
  bind : ∀ xs : List Value, xs.length = params.length → bindArgs fd ⟨xs, []⟩ = pure (params.zip xs)
  names : ∀ x ∈ params, sc.names.lookup x = some .local ∨ sc.names.lookup x = some .cell
/-- one with a starred last parameter -/
structure IsFnS (g : Gd) (a : Addr) (fd : FuncData) (body : List Stmt) (sc : Scope) (params : List Str) (star : Str) : Prop where
  b : FnB g a fd body sc
  bind : ∀ xs : List Value, params.length ≤ xs.length → bindArgs fd ⟨xs, []⟩ = (PySem.newTuple (xs.drop params.length) >>= fun t => pure (params.zip xs ++ [(star, t)]))
  names : ∀ x ∈ params ++ [star], sc.names.lookup x = some .local ∨ sc.names.lookup x = some .cell

theorem cellsFrom_keys : ∀ (l : List (Str × NameKind)) (n m : Nat) (acc acc' : List (Str × Addr)), acc.map (·.1) = acc'.map (·.1) → (cellsFrom n l acc).map (·.1) = (cellsFrom m l acc').map (·.1)
  | [], _, _, _, _, h => h
  | (x, k) :: r, n, m, acc, acc', h => by
    unfold cellsFrom
    split
    · exact cellsFrom_keys r _ _ _ _ (by simp [h])
    · exact cellsFrom_keys r _ _ _ _ h
theorem lookup_of_mem : ∀ {l : List (Str × Addr)} {p : Str × Addr}, (l.map (·.1)).Nodup → p ∈ l → l.lookup p.1 = some p.2
  | [], _, _, h => by cases h
  | (k, c) :: r, p, hn, h => by
    rw [List.map_cons, List.nodup_cons] at hn
    rw [List.lookup_cons]
    rcases List.mem_cons.mp h with e | h
    · subst e; simp
    · have : (p.1 == k) = false := beq_eq_false_iff_ne.mpr fun e => hn.1 (e ▸ List.mem_map_of_mem (f := (·.1)) h)
      rw [this]; exact lookup_of_mem hn.2 h

theorem zip_fst {α : Type} : ∀ {ns : List Str} {xs : List α} {p : Str × α}, p ∈ ns.zip xs → p.1 ∈ ns
  | [], _, _, h => by simp at h
  | _ :: _, [], _, h => by simp at h
  | n :: ns, x :: xs, p, h => by
    rw [List.zip_cons_cons] at h
    rcases List.mem_cons.mp h with e | h
    · subst e; exact List.mem_cons_self
    · exact List.mem_cons_of_mem _ (zip_fst h)

theorem RepB.fst {z : Z} {l : List (Str × V)} {b : List (Str × Value)} (r : RepB z l b) : b.map (·.1) = l.map (·.1) := by
  induction r with
  | nil => rfl
  | cons _ _ ih => rw [List.map_cons, List.map_cons, ih]
theorem RepB.append {z : Z} {l l' : List (Str × V)} {b b' : List (Str × Value)} (r : RepB z l b) (h : RepB z l' b') : RepB z (l ++ l') (b ++ b') := by
  induction r with
  | nil => exact h
  | cons a _ ih => exact .cons a ih
theorem bindV_mem : ∀ (lv : List (Str × V)) (loc : List (Str × V)) {y : Str} {v : V}, (bindV lv loc).lookup y = some v → y ∈ lv.map (·.1) ∨ loc.lookup y = some v
  | [], loc, y, v, e => .inr e
  | (x, u) :: r, loc, y, v, e => by
    unfold bindV at e
    rcases bindV_mem r _ e with h | h
    · exact .inl (List.mem_cons_of_mem _ h)
    · rw [lookup_setL] at h
      by_cases eq : y = x
      · subst eq; exact .inl List.mem_cons_self
      · rw [if_neg eq] at h; exact .inr h
/-- the frame on top is the function's own -/
noncomputable def OwnFr (C : Cx) : Prop := C.A.frames = some (C.env :: C.outer) ∧ C.env.frame = some C.env.locals
/-- the frame is made, the names are bound, the body runs -/
theorem enter_fn {g : Gd} {n : Nat} {a : Addr} {fd : FuncData} {body : List Stmt} {sc : Scope} {Q : V → Led → Prop} {X : XL} {H : Led} {A : Around} {outer : List Env} {zs z : Z} {s : Shared} {lv : List (Str × V)} {binds : List (Str × Value)} {R' : Result → Shared → Prop} {E : Value → Shared → Prop} (F : FnB g a fd body sc)
    (hd : A.depth + (n + 1) ≤ 900) (hu : A.units + 20 * (n + 1) ≤ 9000) (hfr : A.frames = some outer) (hh : A.handled = none) (hfk : FrOK outer zs) (rh : RH g zs H z s) (rb : RepB z lv binds)
    (hnames : ∀ x ∈ lv.map (·.1), sc.names.lookup x = some .local ∨ sc.names.lookup x = some .cell)
    (hR : ∀ r s', (match r with
      | .ok (.ret val) => ∃ z' H' v, Z.le z z' ∧ RH g zs H' z' s' ∧ Rep z' v val ∧ Q v H'
      | .ok _ => False
      | .error e => ∃ z' H' cls, Z.le z z' ∧ RH g zs H' z' s' ∧ Fly g zs H' z' outer s' e cls ∧ X cls H') → R' r s')
    (h : ∀ C : Cx, In C g n sc → C.ro = [] → OwnFr C → TSs C body (fun fl σ' => Q (match fl with | .ret v => v | _ => .none) σ'.H) (fun cls σ' => X cls σ'.H) ⟨bindV lv [], H⟩) :
    wpAny (model g.prog g.w) A.in1 (newFunctionEnv fd.scope fd.globals fd.closure binds (fd.qualname ++ ".<locals>.") (some a) fd.code none fd.builtins) (fun env s₂ => s₂.heap.NoLimit ∧ codeAny (model g.prog g.w) A (.func body env) R' s₂) E s := by
  have hb := rh.base
  rw [F.closure]
  refine wpAny_newFunctionEnv_cells (by rw [F.scope]; exact F.kind) ?_ fun env he s₁ hin => ?_
  · intro x hx
    rw [F.scope]
    have hm : x.1 ∈ lv.map (·.1) := by rw [← rb.fst]; exact List.mem_map_of_mem (f := (·.1)) hx
    rcases hnames x.1 hm with e | e
    · exact .inl e
    · exact .inr ⟨e, PySem.W.cellsFrom_some _ _ _ (.inl e)⟩
  subst he
  refine ⟨(g.lim.keeps hb).keeps hin.toInCall.keep, codeAny_func ?_⟩
  rw [F.scope, F.globals, F.builtins] at hin ⊢
  let C : Cx := {
    g := g, A := A.deeper (newEnv sc s.heap.objs.size mainGlobals (cellsFrom (s.heap.objs.size + 1) sc.names []) (fd.qualname ++ ".<locals>.") (some a) fd.code none builtinsNs)
    env := newEnv sc s.heap.objs.size mainGlobals (cellsFrom (s.heap.objs.size + 1) sc.names []) (fd.qualname ++ ".<locals>.") (some a) fd.code none builtinsNs
    outer := outer, n := n, hk := F.kind, hglob := rfl, hbuilt := rfl
    hdep := by show A.depth + 1 + n ≤ 900; (clear hin s₁ hb h hR hnames rb rh hfk hh hfr hu F E R' binds lv s z zs outer H X Q sc body fd a g; (first | lia | omega))
    hunits := by show A.units + 3 + 20 * n ≤ 9000; (clear hin s₁ hb h hR hnames rb rh hfk hh hfr hd F E R' binds lv s z zs outer H X Q sc body fd a g; (first | lia | omega))
    hframes := .inl ⟨by show (A.frames.map _) = _; rw [hfr]; rfl, rfl⟩
    apart := hin.apart }
  have hIn : In C g n sc := ⟨rfl, rfl, fun x => rfl, fun x hx => by
    have := PySem.W.cellsFrom_some (x := x) sc.names (s.heap.objs.size + 1) [] (.inl hx)
    exact Option.isSome_iff_exists.mp this, hh, rfl, rfl⟩
  have hnew : ∀ b, s.heap.objs.size ≤ b → z b = none ∧ zs b = none ∧ b ∉ H.map (·.1) := fun b hb => ⟨rh.fresh_z hb, rh.fresh_zs hb, rh.fresh_H hb⟩
  obtain ⟨hrepL, hrepC⟩ := bind_reps (kindOf := C.env.kindOf) rb [] (fun _ => none) (fun _ => none) (fun x v e => by simp at e) (fun x v e => by simp at e)
  obtain ⟨h₁, tk, hs₁⟩ := hin.toInCall.same
  have hR0 : R C zs ⟨bindV lv [], H⟩ z s₁ := by
    refine ⟨?_, ⟨_, hin.toInCall.ns, fun x v e k => hrepL x v e k⟩, fun x v e k => ?_, fun p hp => ?_, ?_, hfk⟩
    · rw [hs₁]
      exact rh.grow fun b o e => by
        have := hin.toInCall.keep b o e
        rw [hs₁] at this; exact this
    · obtain ⟨val, e1, r⟩ := hrepC x v e (fun q => by rw [q] at k; cases k)
      have hm := (bindV_mem lv [] e).resolve_right (by simp)
      have hk : sc.names.lookup x = some .cell := by
        rcases hnames x hm with q | q
        · have : cellish (sc.names.lookup x) = true := k
          rw [q] at this; cases this
        · exact q
      have hlk : (cellsFrom (s.heap.objs.size + 1) sc.names []).lookup x ≠ none := by
        have := PySem.W.cellsFrom_some (x := x) sc.names (s.heap.objs.size + 1) [] (.inl hk)
        intro q; rw [q] at this; cases this
      obtain ⟨c, hc⟩ := Option.ne_none_iff_exists'.mp hlk
      refine ⟨c, val, hc, ?_, r⟩
      have := hin.cell x c hc
      rw [show bindC C.env.kindOf binds (fun _ => none) x = some val from e1] at this
      exact this
    · have hlt := hin.above p.1 p.2 hp
      obtain ⟨q1, q2, q3⟩ := hnew p.2 (Nat.le_of_lt hlt)
      have hlk : (cellsFrom (s.heap.objs.size + 1) sc.names []).lookup p.1 = some p.2 :=
        lookup_of_mem (by rw [cellsFrom_keys sc.names _ 0 [] [] rfl]; exact F.nodup) hp
      exact ⟨⟨_, hin.cell _ _ hlk⟩, q1, .inl q2, Nat.ne_of_gt hlt, q3⟩
    · obtain ⟨q1, q2, q3⟩ := hnew s.heap.objs.size (Nat.le_refl _)
      exact ⟨q1, q2, q3⟩
  have hOwn : OwnFr C := ⟨by show (A.frames.map _) = _; rw [hfr]; rfl, rfl⟩
  refine wpAny_mono (h C hIn rfl hOwn z zs z s₁ (Z.le_refl _) hR0) ?_ ?_
  · rintro fl s2 ⟨z2, σ2, l2, R2, f, rf, q⟩
    cases rf with
    | ret r => exact hR _ _ ⟨z2, _, _, l2, R2.rh, r, q⟩
    | next => exact hR _ _ ⟨z2, _, _, l2, R2.rh, .none, q⟩
    | brk => exact hR _ _ ⟨z2, _, _, l2, R2.rh, .none, q⟩
    | cont => exact hR _ _ ⟨z2, _, _, l2, R2.rh, .none, q⟩
  · rintro e s2 ⟨z2, σ2, cls, fr, l2, R2, q, fl, x⟩
    have q' : C.A.frames = some (C.env :: outer) := by show (A.frames.map _) = _; rw [hfr]; rfl
    rw [q'] at q
    cases q
    exact leave_fly q' (L := C.env.locals) rfl fl R2.rh fun h' r' fl' => hR _ _ ⟨z2, σ2.H, cls, l2, r', fl', x⟩
theorem zip_names {ns : List Str} {vs : List V} {P : Str → Prop} (h : ∀ x ∈ ns, P x) : ∀ x ∈ (ns.zip vs).map (·.1), P x := fun x hx => by
  obtain ⟨p, hp, rfl⟩ := List.mem_map.mp hx
  exact h _ (zip_fst hp)
theorem CallT.defX {g : Gd} {n : Nat} {a : Addr} {fd : FuncData} {body : List Stmt} {sc : Scope} {params : List Str} {vs : List V} {Q : V → Led → Prop} {X : XL} {H : Led} (F : IsFn g a fd body sc params) (hlen : vs.length = params.length)
    (h : ∀ C : Cx, In C g n sc → C.ro = [] → OwnFr C → TSs C body (fun fl σ' => Q (match fl with | .ret v => v | _ => .none) σ'.H) (fun cls σ' => X cls σ'.H) ⟨bindV (params.zip vs) [], H⟩) : CallT g (n + 1) (.ref a) vs Q X H := by
  intro A outer zs z s xs hd hu hfr hh hfk rh rv
  obtain ⟨o, ho, hdata⟩ := F.b.at_
  refine codeAny_call_function (by show A.depth < 1000; (clear hdata ho o rv rh hfk hh hfr hu xs s z zs outer h hlen F H X Q sc body fd a g vs params; (first | lia | omega))) (rh.base _ _ ho) hdata (by rw [F.b.scope]; exact F.b.co) (by rw [F.b.scope]; exact F.b.gen) F.b.body (F.b.code.keeps rh.base) ?_
  rw [F.bind xs (by rw [rv.length, hlen])]
  exact wpAny_pure (enter_fn F.b hd hu hfr hh hfk rh (RepB.zip params rv) (zip_names F.names) (fun _ _ k => k) h)
theorem CallT.def_ {g : Gd} {n : Nat} {a : Addr} {fd : FuncData} {body : List Stmt} {sc : Scope} {params : List Str} {vs : List V} {Q : V → Led → Prop} {X : XL} {H : Led} (F : IsFn g a fd body sc params) (hlen : vs.length = params.length)
    (h : ∀ C : Cx, In C g n sc → C.ro = [] → TSs C body (fun fl σ' => Q (match fl with | .ret v => v | _ => .none) σ'.H) (fun cls σ' => X cls σ'.H) ⟨bindV (params.zip vs) [], H⟩) : CallT g (n + 1) (.ref a) vs Q X H := CallT.defX F hlen fun C a b _ => h C a b
theorem RepL.drop {z : Z} {vs : List V} {xs : List Value} (n : Nat) (h : RepL z vs xs) : RepL z (vs.drop n) (xs.drop n) := by
  refine h.ind (P := fun vs xs => ∀ n : Nat, RepL z (vs.drop n) (xs.drop n)) (fun n => ?_) (fun a t ih n => ?_) n
  · rw [List.drop_nil, List.drop_nil]; exact .nil
  · cases n with
    | zero => exact .cons a t
    | succ n => exact ih n
theorem CallT.defSX {g : Gd} {n : Nat} {a : Addr} {fd : FuncData} {body : List Stmt} {sc : Scope} {params : List Str} {star : Str} {vs : List V} {Q : V → Led → Prop} {X : XL} {H : Led} (F : IsFnS g a fd body sc params star) (hlen : params.length ≤ vs.length) (hsz : vs.length ≤ 16777216)
    (h : ∀ C : Cx, In C g n sc → C.ro = [] → OwnFr C → TSs C body (fun fl σ' => Q (match fl with | .ret v => v | _ => .none) σ'.H) (fun cls σ' => X cls σ'.H) ⟨bindV (params.zip vs ++ [(star, .tup (vs.drop params.length))]) [], H⟩) : CallT g (n + 1) (.ref a) vs Q X H := by
  intro A outer zs z s xs hd hu hfr hh hfk rh rv
  obtain ⟨o, ho, hdata⟩ := F.b.at_
  refine codeAny_call_function (by show A.depth < 1000; (clear hdata ho o rv rh hfk hh hfr hu xs s z zs outer h hsz hlen F H X Q star sc body fd a g vs params; (first | lia | omega))) (rh.base _ _ ho) hdata (by rw [F.b.scope]; exact F.b.co) (by rw [F.b.scope]; exact F.b.gen) F.b.body (F.b.code.keeps rh.base) ?_
  rw [F.bind xs (by rw [rv.length]; exact hlen)]
  have hl := rv.length
  refine wpAny_bind (wpAny_newTuple (wpAny_pure ?_) (by rw [List.length_drop]; exact size_ok (by (clear hdata ho o rv rh hfk hh hfr hu hd s z zs outer h F H X Q star sc body fd a g A n hlen; (first | lia | omega)))))
  have e : ({ s with heap := s.heap.push { cls := .type "tuple", data := .seq (xs.drop params.length).toArray } } : Shared).heap.get? s.heap.objs.size = some { cls := .type "tuple", data := .seq (xs.drop params.length).toArray } := Heap.get?_push_size _ rfl
  have r1 := rh.grow (t := s.toks) fun b o e => Heap.get?_push_of_some { cls := .type "tuple", data := .seq (xs.drop params.length).toArray } e
  have le := Z.le_put r1 e
  have r2 := r1.freeze e (rh.fresh_zs (Nat.le_refl _)) (rh.fresh_H (Nat.le_refl _))
  refine enter_fn F.b hd hu hfr hh hfk r2 ((RepB.zip params (rv.mono le)).append (.cons (.tup put_self ((rv.drop params.length).mono le)) .nil)) ?_ ?_ h
  · intro x hx
    rw [List.map_append] at hx
    rcases List.mem_append.mp hx with hx | hx
    · exact zip_names (P := fun x => sc.names.lookup x = some .local ∨ sc.names.lookup x = some .cell) (fun y hy => F.names y (List.mem_append_left _ hy)) x hx
    · exact F.names x (List.mem_append_right _ (by simpa using hx))
  · intro r s' k
    cases r with
    | error e => obtain ⟨z', H', cls, l, q⟩ := k; exact ⟨z', H', cls, Z.le_trans le l, q⟩
    | ok fl =>
      cases fl with
      | ret val => obtain ⟨z', H', v, l, q⟩ := k; exact ⟨z', H', v, Z.le_trans le l, q⟩
      | _ => exact k
theorem CallT.defS {g : Gd} {n : Nat} {a : Addr} {fd : FuncData} {body : List Stmt} {sc : Scope} {params : List Str} {star : Str} {vs : List V} {Q : V → Led → Prop} {X : XL} {H : Led} (F : IsFnS g a fd body sc params star) (hlen : params.length ≤ vs.length) (hsz : vs.length ≤ 16777216)
    (h : ∀ C : Cx, In C g n sc → C.ro = [] → TSs C body (fun fl σ' => Q (match fl with | .ret v => v | _ => .none) σ'.H) (fun cls σ' => X cls σ'.H) ⟨bindV (params.zip vs ++ [(star, .tup (vs.drop params.length))]) [], H⟩) : CallT g (n + 1) (.ref a) vs Q X H := CallT.defSX F hlen hsz fun C a b _ => h C a b
end PL

end
section
open PySem PySem.Calls PyProof.Rows
set_option Elab.async false
set_option linter.unusedVariables false
set_option linter.unusedSimpArgs false
namespace PL


section
variable {C : Cx} {zs z : Z} {σ : St} {s : Shared} {I : Addr} {o o' : Obj}

theorem put_le_of (hI : zs I = none) {b : Addr} {p : Obj} (h : zs b = some p) : zs.put I o b = some p := by
  unfold Z.put
  by_cases e : b = I
  · subst e; rw [hI] at h; cases h
  · rw [if_neg e]; exact h
theorem put_none {b : Addr} (h : zs.put I o b = none) : b ≠ I ∧ zs b = none := by
  unfold Z.put at h
  by_cases e : b = I
  · rw [if_pos e] at h; cases h
  · rw [if_neg e] at h; exact ⟨e, h⟩
theorem put_some {b : Addr} {p : Obj} (h : zs.put I o b = some p) (e : b ≠ I) : zs b = some p := by
  unfold Z.put at h; rw [if_neg e] at h; exact h
theorem FrOK.put {outer : List Env} (h : FrOK outer zs) (hI : zs I = none) : FrOK outer (zs.put I o) :=
  ⟨fun e he => let ⟨a, L, q, b, c, d⟩ := h.ok e he; ⟨a, L, q, b, put_le_of hI c, d⟩⟩

/-- the hidden object's own kind: no cell, no namespace -/
noncomputable def Stays (o : Obj) : Prop := (∀ ov, o.data ≠ .cell ov) ∧ ∀ vs ep, o.data ≠ .dict vs ep
theorem Stays.fields {o : Obj} {fs : Array Value} (h : o.data = .fields fs) : Stays o := ⟨fun _ e => (by rw [h] at e; cases e), fun _ _ e => (by rw [h] at e; cases e)⟩
theorem Stays.list (items : List Value) (n : Nat) : Stays (lstO items n) := ⟨fun _ e => (by cases e), fun _ _ e => (by cases e)⟩

theorem RH.hidden {g : Gd} {H : Led} (r : RH g zs H z s) (h : zs I = some o) (hs : Stays o) : s.heap.get? I = some o := by
  obtain ⟨sl, e, k⟩ := r.hzs _ _ h
  rw [e, k hs.2]
theorem R.hideAt (hR : R C zs σ z s) (e : s.heap.get? I = some o) (h0 : z I = none) (q : Apart C zs σ I) : R C (zs.put I o) σ z s where
  rh := {
    hz := hR.rh.hz
    hbase := hR.rh.hbase
    hzs := fun b p h => by
      by_cases hb : b = I
      · subst hb; rw [put_self] at h; cases h; exact ⟨o.slots, e, fun _ => rfl⟩
      · exact hR.rh.hzs b p (put_some h hb)
    disj := fun b p h => by
      by_cases hb : b = I
      · subst hb; exact h0
      · exact hR.rh.disj b p (put_some h hb)
    hH := fun p hp => let ⟨a, b, c⟩ := hR.rh.hH p hp; ⟨a, b, put_ne (fun w => q.2.2.1 (w ▸ List.mem_map_of_mem (f := (·.1)) hp)) c⟩
    nodup := hR.rh.nodup
    gens := hR.rh.gens
    os := hR.rh.os }
  ns := hR.ns
  cells := hR.cells
  cellsOk p hp := let ⟨a, b, c, d⟩ := hR.cellsOk p hp; ⟨a, b, c.imp (put_ne (q.2.2.2 p hp)) id, d⟩
  locFree := ⟨hR.locFree.1, put_ne (Ne.symm q.2.1) hR.locFree.2.1, hR.locFree.2.2⟩
  fr := hR.fr.put q.1

theorem R.apartHidC (hR : R C (zs.put I o) σ z s) (hI : zs I = none) (hs : ∀ ov, o.data ≠ .cell ov) : z I = none ∧ Apart C zs σ I := by
  refine ⟨hR.rh.disj _ _ put_self, hI, ?_, ?_, ?_⟩
  · exact Ne.symm (put_none hR.locFree.2.1).1
  · intro h
    obtain ⟨p, hp, e⟩ := List.mem_map.mp h
    exact (put_none (hR.rh.hH p hp).2.2).1 e
  · intro p hp e
    obtain ⟨⟨ov, oc, e1, e2⟩, _⟩ := hR.cellsOk p hp
    obtain ⟨sl, e3, _⟩ := hR.rh.hzs I o put_self
    rw [← e, e1] at e3
    have e4 : oc = { o with slots := sl } := Option.some.inj e3
    rw [e4] at e2
    exact hs ov e2
theorem R.apartHid (hR : R C (zs.put I o) σ z s) (hI : zs I = none) (hs : Stays o) : z I = none ∧ Apart C zs σ I := hR.apartHidC hI hs.1

/-- the hidden object has changed, and new objects may stand behind -/
theorem R.iter (hR : R C (zs.put I o) σ z s) (hI : zs I = none) (hfr : FrOK C.outer zs) (hs : Stays o) {h' : Heap} {t : Nat} (k : Heap.ExtBut I s.heap h') (e : h'.get? I = some o') :
    R C (zs.put I o') σ z { s with heap := h', toks := t } := by
  obtain ⟨h0, q1, q2, q3, q4⟩ := hR.apartHid hI hs
  have ne : ∀ b p, z b = some p → b ≠ I := fun b p hb w => by rw [w, h0] at hb; cases hb
  refine ⟨⟨fun b p hb => k b p (ne b p hb) (hR.rh.hz b p hb), hR.rh.hbase, fun b p hb => ?_, fun b p hb => ?_, fun p hp => ?_, hR.rh.nodup, hR.rh.gens, hR.rh.os⟩, ?_, fun x v h1 h2 => ?_, fun p hp => ?_, ?_, hfr.put hI⟩
  · by_cases hb' : b = I
    · subst hb'; rw [put_self] at hb; cases hb; exact ⟨o'.slots, e, fun _ => rfl⟩
    · obtain ⟨sl, a, c⟩ := hR.rh.hzs b p (put_le_of hI (put_some hb hb'))
      exact ⟨sl, k _ _ hb' a, c⟩
  · by_cases hb' : b = I
    · subst hb'; exact h0
    · exact hR.rh.disj b p (put_le_of hI (put_some hb hb'))
  · obtain ⟨a, b, c⟩ := hR.rh.hH p hp
    obtain ⟨c1, c2⟩ := put_none c
    exact ⟨a.keep fun o ho => k _ _ c1 ho, b, put_ne c1 c2⟩
  · obtain ⟨m, ⟨ol, es, ep, a, b, c⟩, d⟩ := hR.ns
    exact ⟨m, ⟨ol, es, ep, k _ _ (Ne.symm q2) a, b, c⟩, d⟩
  · obtain ⟨c, val, a, ⟨oc, b1, b2⟩, d⟩ := hR.cells x v h1 h2
    exact ⟨c, val, a, ⟨oc, k _ _ (q4 _ (mem_of_lookup a)) b1, b2⟩, d⟩
  · obtain ⟨⟨ov, oc, b1, b2⟩, b, c, d⟩ := hR.cellsOk p hp
    exact ⟨⟨ov, oc, k _ _ (q4 p hp) b1, b2⟩, b, c.imp (fun c => put_ne (q4 p hp) (put_none c).2) id, d⟩
  · exact ⟨hR.locFree.1, put_ne (Ne.symm q2) (put_none hR.locFree.2.1).2, hR.locFree.2.2⟩
theorem R.unhideC (hR : R C (zs.put I o) σ z s) (hI : zs I = none) (hfr : FrOK C.outer zs) (hs : ∀ ov, o.data ≠ .cell ov) {h' : Heap} {t : Nat} (k : Heap.ExtBut I s.heap h') : R C zs σ z { s with heap := h', toks := t } := by
  obtain ⟨h0, q1, q2, q3, q4⟩ := hR.apartHidC hI hs
  have ne : ∀ b p, z b = some p → b ≠ I := fun b p hb w => by rw [w, h0] at hb; cases hb
  have nes : ∀ b p, zs b = some p → b ≠ I := fun b p hb w => by rw [w, hI] at hb; cases hb
  refine ⟨⟨fun b p hb => k b p (ne b p hb) (hR.rh.hz b p hb), hR.rh.hbase, fun b p hb => ?_, fun b p hb => ?_, fun p hp => ?_, hR.rh.nodup, hR.rh.gens, hR.rh.os⟩, ?_, fun x v h1 h2 => ?_, fun p hp => ?_, ?_, hfr⟩
  · obtain ⟨sl, a, c⟩ := hR.rh.hzs b p (put_le_of hI hb)
    exact ⟨sl, k _ _ (nes b p hb) a, c⟩
  · exact hR.rh.disj b p (put_le_of hI hb)
  · obtain ⟨a, b, c⟩ := hR.rh.hH p hp
    obtain ⟨c1, c2⟩ := put_none c
    exact ⟨a.keep fun o ho => k _ _ c1 ho, b, c2⟩
  · obtain ⟨m, ⟨ol, es, ep, a, b, c⟩, d⟩ := hR.ns
    exact ⟨m, ⟨ol, es, ep, k _ _ (Ne.symm q2) a, b, c⟩, d⟩
  · obtain ⟨c, val, a, ⟨oc, b1, b2⟩, d⟩ := hR.cells x v h1 h2
    exact ⟨c, val, a, ⟨oc, k _ _ (q4 _ (mem_of_lookup a)) b1, b2⟩, d⟩
  · obtain ⟨⟨ov, oc, b1, b2⟩, b, c, d⟩ := hR.cellsOk p hp
    exact ⟨⟨ov, oc, k _ _ (q4 p hp) b1, b2⟩, b, c.imp (fun c => (put_none c).2) id, d⟩
  · exact ⟨hR.locFree.1, (put_none hR.locFree.2.1).2, hR.locFree.2.2⟩
theorem R.unhide (hR : R C (zs.put I o) σ z s) (hI : zs I = none) (hfr : FrOK C.outer zs) (hs : Stays o) {h' : Heap} {t : Nat} (k : Heap.ExtBut I s.heap h') : R C zs σ z { s with heap := h', toks := t } := hR.unhideC hI hfr hs.1 k
end

/-! walking over something -/
noncomputable def ownIters : List String := ["enumerate", "zip", "dict_itemiterator", "dict_reverseitemiterator", "odict_iterator", "itertools.zip_longest", "itertools.pairwise"]

structure WalkOf (g : Gd) (A : Around) (S : Z → Led → Prop) (vs : List V) (J : Nat → Obj → Prop) : Prop where
  fields : ∀ i o, J i o → ∃ fs, o.data = .fields fs
  cls : ∀ i o, J i o → ∃ T, o.cls = .type T ∧ ownIters.contains T = false
  self : ∀ (s : Shared) I o Q E, J 0 o → s.heap.get? I = some o → Q (.ref I) s → wpAny (model g.prog g.w) A (pyIter (.ref I)) Q E s
  item : ∀ zs z H (s : Shared) I o i v Q E, J i o → vs[i]? = some v → RH g zs H z s → S z H → s.heap.get? I = some o →
    (∀ h' t o' val, h'.get? I = some o' → J (i + 1) o' → Heap.SameBut I s.heap h' → Rep z v val → Q (some val) { s with heap := h', toks := t }) → wpAny (model g.prog g.w) A (pyNext (.ref I)) Q E s
  fin : ∀ zs z H (s : Shared) I o Q E, J vs.length o → RH g zs H z s → S z H → s.heap.get? I = some o →
    (∀ h', Heap.ExtBut I s.heap h' → Q none { s with heap := h' }) → wpAny (model g.prog g.w) A (pyNext (.ref I)) Q E s

structure Walk (C : Cx) (v : V) (vs : List V) (S : Led → Prop) : Prop where
  start : ∀ z₀ x, Rep z₀ v x → ∃ J, (∀ A', A'.handled = none → WalkOf C.g A' (fun z H => Z.le z₀ z ∧ S H) vs J) ∧ ∀ zs z σ (s : Shared) Q E, Z.le z₀ z → R C zs σ z s → S σ.H →
    (∀ o, J 0 o → o.isFreed = false → Q (.ref s.heap.objs.size) { s with heap := s.heap.push o }) → wpAny C.M C.A (pyIter x) Q E s

section
variable {C : Cx}
theorem isList_of {s : Shared} {a : Addr} {items : List Value} {n : Nat} (e : s.heap.get? a = some (lstO items n)) : s.heap.IsList a items.toArray := ⟨_, e, rfl, n, rfl⟩
theorem isTuple_of {s : Shared} {a : Addr} {items : List Value} {n : Nat} (e : s.heap.get? a = some (tupO items n)) : s.heap.IsTuple a items.toArray := ⟨_, e, rfl, n, rfl⟩

/-- the items at the address, as the state tells -/
noncomputable def ListAt (g : Gd) (a : Addr) (vs : List V) (S : Z → Led → Prop) : Prop := ∀ zs z H (s : Shared), RH g zs H z s → S z H → ∃ items n, s.heap.get? a = some (lstO items n) ∧ RepL z vs items
theorem getRep {z : Z} {vs : List V} {xs : List Value} (r : RepL z vs xs) {i : Nat} {v : V} (h : vs[i]? = some v) : ∃ x, xs.toArray[i]? = some x ∧ Rep z v x := by
  obtain ⟨x, a, b⟩ := r.get h; exact ⟨x, by simpa using a, b⟩
theorem getEnd {z : Z} {vs : List V} {xs : List Value} (r : RepL z vs xs) : xs.toArray[vs.length]? = none := by
  simp [r.length]
theorem walkOf_list {g : Gd} {A : Around} (hA : A.handled = none) {a : Addr} {vs : List V} {S : Z → Led → Prop} (k : ListAt g a vs S) :
    WalkOf g A S vs fun i o => o.cls = .type "list_iterator" ∧ o.data = .fields #[.ref a, .int (i : Int) 0] where
  fields i o h := ⟨_, h.2⟩
  cls i o h := ⟨_, h.1, by decide⟩
  self s I o Q E h e q := wpAny_pyIter_listiter (l := a) (i := 0) ⟨o, e, h.1, h.2⟩ q
  item zs z H s I o i v Q E h hv r st e q := by
    obtain ⟨items, n, e1, rl⟩ := k zs z H s r st
    obtain ⟨x, hx, rx⟩ := getRep rl hv
    refine wpAny_pyNext_list_item (l := a) (i := i) ⟨o, e, h.1, h.2⟩ (isList_of e1) hx fun h' hit hs => ?_
    obtain ⟨o', p1, p2, p3⟩ := hit
    exact q h' s.toks o' x p1 ⟨p2, p3⟩ hs rx
  fin zs z H s I o Q E h r st e q := by
    obtain ⟨items, n, e1, rl⟩ := k zs z H s r st
    exact wpAny_pyNext_list_end hA (l := a) (i := vs.length) ⟨o, e, h.1, h.2⟩ (isList_of e1) (getEnd rl) q
theorem Walk.lst {vs : List V} : Walk C (.lst vs) vs (fun _ => True) where
  start z₀ x r := by
    cases r with
    | @lst _ a items n e hr =>
      refine ⟨_, fun A' hA => walkOf_list hA (a := a) fun zs z H s rh st => ⟨items, n, rh.hz _ _ (st.1 _ _ e), hr.mono st.1⟩, fun zs z σ s Q E hz hR _ q => ?_⟩
      exact wpAny_pyIter_list (isList_of (hR.rh.hz _ _ (hz _ _ e))) (q _ ⟨rfl, rfl⟩ rfl)
theorem Walk.led {a : Addr} {vs : List V} : Walk C (.ref a) vs (fun H => (a, AO.list vs) ∈ H) where
  start z₀ x r := by
    have rq := r.e; clear r; obtain ⟨_, rfl⟩ := rq
    refine ⟨_, fun A' hA => walkOf_list hA (a := a) fun zs z H s rh st => ?_, fun zs z σ s Q E hz hR st q => ?_⟩
    · obtain ⟨⟨items, n, e, rl⟩, _⟩ := rh.hH _ st.2
      exact ⟨items, n, e, rl⟩
    · obtain ⟨⟨items, n, e, rl⟩, _⟩ := hR.rh.hH _ st
      exact wpAny_pyIter_list (isList_of e) (q _ ⟨rfl, rfl⟩ rfl)
theorem Walk.tup {vs : List V} : Walk C (.tup vs) vs (fun _ => True) where
  start z₀ x r := by
    cases r with
    | @tup _ a items n e hr =>
      refine ⟨fun i o => o.cls = .type "tuple_iterator" ∧ o.data = .fields #[.ref a, .int (i : Int) 0], fun A' hA => ⟨fun i o h => ⟨_, h.2⟩, fun i o h => ⟨_, h.1, by decide⟩, ?_, ?_, ?_⟩, fun zs z σ s Q E hz hR _ q => ?_⟩
      · exact fun s I o Q E h e q => wpAny_pyIter_tupleiter (t := a) (i := 0) ⟨o, e, h.1, h.2⟩ q
      · intro zs z H s I o i v Q E h hv rh st e' q
        obtain ⟨x, hx, rx⟩ := getRep (hr.mono st.1) hv
        refine wpAny_pyNext_tuple_item (t := a) (i := i) ⟨o, e', h.1, h.2⟩ (isTuple_of (rh.hz _ _ (st.1 _ _ e))) hx fun h' hit hs => ?_
        obtain ⟨o', p1, p2, p3⟩ := hit
        exact q h' s.toks o' x p1 ⟨p2, p3⟩ hs rx
      · intro zs z H s I o Q E h rh st e' q
        exact wpAny_pyNext_tuple_end hA (t := a) (i := vs.length) ⟨o, e', h.1, h.2⟩ (isTuple_of (rh.hz _ _ (st.1 _ _ e))) (getEnd hr) q
      · exact wpAny_pyIter_tuple (isTuple_of (hR.rh.hz _ _ (hz _ _ e))) (q _ ⟨rfl, rfl⟩ rfl)
theorem Walk.str {l : List Nat} : Walk C (.txt false l) (l.map fun c => .txt false [c]) (fun _ => True) where
  start z₀ x r := by
    have rq := r.e; clear r; obtain ⟨t, rfl⟩ := rq
    have hget : ∀ {i : Nat} {v : V}, (l.map fun c => V.txt false [c])[i]? = some v → ∃ c, l[i]? = some c ∧ v = .txt false [c] := by
      intro i v h
      rw [List.getElem?_map] at h
      cases e : l[i]? with
      | none => rw [e] at h; cases h
      | some c => rw [e] at h; cases h; exact ⟨c, rfl, rfl⟩
    cases ha : (l.toArray).all (· < 128) with
    | true =>
      refine ⟨fun i o => o.cls = .type "str_ascii_iterator" ∧ o.data = .fields #[.str ⟨l.toArray⟩ t, .int (i : Int) 0], fun A' hA => ⟨fun i o h => ⟨_, h.2⟩, fun i o h => ⟨_, h.1, by decide⟩, ?_, ?_, ?_⟩, fun zs z σ s Q E hz hR _ q => ?_⟩
      · exact fun s I o Q E h e q => wpAny_pyIter_striter_ascii (x := ⟨l.toArray⟩) (t := t) (i := 0) ⟨o, e, h.1, h.2⟩ q
      · intro zs z H s I o i v Q E h hv rh st e' q
        obtain ⟨c, hc, rfl⟩ := hget hv
        refine wpAny_pyNext_ascii_item (x := ⟨l.toArray⟩) (t := t) (i := i) (c := c) ⟨o, e', h.1, h.2⟩ (by simpa using hc) fun h' hit hs => ?_
        obtain ⟨o', p1, p2, p3⟩ := hit
        exact q h' _ o' _ p1 ⟨p2, p3⟩ hs (.str [c] _)
      · intro zs z H s I o Q E h rh st e' q
        exact wpAny_pyNext_ascii_end hA (x := ⟨l.toArray⟩) (t := t) ⟨o, e', h.1, h.2⟩ (by simp) q
      · exact wpAny_pyIter_ascii (x := ⟨l.toArray⟩) ha (q _ ⟨rfl, rfl⟩ rfl)
    | false =>
      refine ⟨fun i o => o.cls = .type "str_iterator" ∧ o.data = .fields #[.str ⟨l.toArray⟩ t, .int (i : Int) 0], fun A' hA => ⟨fun i o h => ⟨_, h.2⟩, fun i o h => ⟨_, h.1, by decide⟩, ?_, ?_, ?_⟩, fun zs z σ s Q E hz hR _ q => ?_⟩
      · exact fun s I o Q E h e q => wpAny_pyIter_striter_wide (x := ⟨l.toArray⟩) (t := t) (i := 0) ⟨o, e, h.1, h.2⟩ q
      · intro zs z H s I o i v Q E h hv rh st e' q
        obtain ⟨c, hc, rfl⟩ := hget hv
        refine wpAny_pyNext_wide_item (x := ⟨l.toArray⟩) (t := t) (i := i) (c := c) ⟨o, e', h.1, h.2⟩ (by simpa using hc) fun h' hit hs => ?_
        obtain ⟨o', p1, p2, p3⟩ := hit
        exact q h' _ o' _ p1 ⟨p2, p3⟩ hs (.str [c] _)
      · intro zs z H s I o Q E h rh st e' q
        exact wpAny_pyNext_wide_end hA (x := ⟨l.toArray⟩) (t := t) ⟨o, e', h.1, h.2⟩ (by simp) q
      · exact wpAny_pyIter_wide (x := ⟨l.toArray⟩) ha (q _ ⟨rfl, rfl⟩ rfl)
theorem small_range {a b : Int} (h1 : -1152921504606846976 ≤ a) (h2 : a ≤ 1152921504606846976) (h3 : -1152921504606846976 ≤ b) (h4 : b ≤ 1152921504606846976) : Builtin.Range.small a b 1 = true := by
  have hp : (2 : Int) ^ 63 = 9223372036854775808 := by decide
  have hr : 0 ≤ Builtin.Range.rangeSize a b 1 ∧ Builtin.Range.rangeSize a b 1 ≤ 9223372036854775807 := by
    simp only [Builtin.Range.rangeSize, Int.ediv_one]
    repeat' split
    all_goals (clear hp h3 h2; (first | lia | omega))
  obtain ⟨r1, r2⟩ := hr
  have f : ∀ x : Int, -9223372036854775808 ≤ x → x < 9223372036854775808 → Builtin.Range.rangeFitsLong x = true := by
    intro x p q
    unfold Builtin.Range.rangeFitsLong
    rw [hp]; simp [p, q]
  unfold Builtin.Range.small
  rw [f a (by (clear f r2 r1 hp h4 h3 b h2; (first | lia | omega))) (by (clear f r2 r1 hp h4 h3 b h1; (first | lia | omega))), f b (by (clear f r2 r1 hp h2 h1 a h4; (first | lia | omega))) (by (clear f r2 r1 hp h2 h1 a h3; (first | lia | omega))), f 1 (by (clear f r2 r1 hp h4 h3 h2 h1 b a; (first | lia | omega))) (by (clear f r2 r1 hp h4 h3 h2 h1 b a; (first | lia | omega))), f _ (by (clear f hp h4 h3 h2 h1 r2; (first | lia | omega))) (by (clear f hp h4 h3 h2 h1 r1; (first | lia | omega))), if_pos (by decide), f (b + (1 - 1)) (by (clear f r2 r1 hp h2 h1 a h4; (first | lia | omega))) (by (clear f r2 r1 hp h2 h1 a h3; (first | lia | omega)))]
  simp
noncomputable def upTo (a : Int) : Nat → List V
  | 0 => []
  | n + 1 => .int a :: upTo (a + 1) n
theorem upGet : ∀ (n : Nat) (a : Int) (i : Nat), (upTo a n)[i]? = if i < n then some (V.int (a + i)) else none
  | 0, a, i => by simp [upTo]
  | n + 1, a, 0 => by simp [upTo]
  | n + 1, a, i + 1 => by
    rw [upTo, List.getElem?_cons_succ, upGet n (a + 1) i]
    by_cases h : i < n
    · rw [if_pos h, if_pos (by (clear a; (first | lia | omega)))]; congr 2; push_cast; (clear h n; (first | lia | omega))
    · rw [if_neg h, if_neg (by (clear a; (first | lia | omega)))]
theorem upLen : ∀ (n : Nat) (a : Int), (upTo a n).length = n
  | 0, _ => rfl
  | n + 1, a => by simp [upTo, upLen n]
theorem Walk.rng {a b : Int} (hsm : Builtin.Range.small a b 1 = true) : Walk C (.rng a b 1) (upTo a (b - a).toNat) (fun _ => True) where
  start z₀ x r := by
    cases r with
    | @rng _ _ _ ad t u v e =>
      have hsz : Builtin.Range.rangeSize a b 1 = ((b - a).toNat : Int) := by
        simp only [Builtin.Range.rangeSize]
        repeat' split
        all_goals first | (clear e v u t ad z₀ hsm; (first | lia | omega)) | simp_all <;> (first | lia | omega)
      refine ⟨fun i o => o = { cls := .type "range_iterator", dict := none, data := .fields #[rawInt (a + i), rawInt ((b - a).toNat - (i : Int)), rawInt 1], slots := #[] }, fun A' hA => ⟨fun i o h => ⟨#[rawInt (a + i), rawInt ((b - a).toNat - (i : Int)), rawInt 1], by rw [h]⟩, fun i o h => ⟨"range_iterator", by rw [h], by decide⟩, ?_, ?_, ?_⟩, fun zs z σ s Q E hz hR _ q => ?_⟩
      · intro s I o Q E h e q
        subst h
        exact wpAny_pyIter_rangeiter e q
      · intro zs z H s I o i v Q E h hv rh st e' q
        subst h
        rw [upGet] at hv
        split at hv
        · rename_i hi
          cases hv
          refine wpAny_pyNext_range_item e' (by (clear q e' st rh E Q I s H z zs hA A' hsz e v u t ad z₀ hsm; (first | lia | omega))) fun h' hit hs => ?_
          refine q h' _ _ _ hit ?_ hs (.int _ _)
          have e1 : a + ((i + 1 : Nat) : Int) = a + i + 1 := by push_cast; (clear hs hit h' q hi e' st rh E Q I s H z zs hA A' hsz e v u t ad z₀ hsm b; (first | lia | omega))
          have e2 : ((b - a).toNat : Int) - ((i + 1 : Nat) : Int) = ((b - a).toNat - (i : Int)) - 1 := by push_cast; (clear e1 hs hit h' q hi e' st rh E Q I s H z zs hA A' hsz e v u t ad z₀ hsm; (first | lia | omega))
          rw [e1, e2]
        · cases hv
      · intro zs z H s I o Q E h rh st e' q
        subst h
        rw [upLen] at e'
        exact wpAny_pyNext_range_end hA e' (by (clear e' q st rh E Q I s H z zs hA A' hsz e v u t ad z₀ hsm; (first | lia | omega))) q
      · refine wpAny_pyIter_range (hR.rh.hz _ _ (hz _ _ e)) hsm (q _ ?_ rfl)
        rw [hsz]; simp [rawInt]
end
end PL

end
section
open PySem PySem.Calls PyProof.Rows
set_option Elab.async false
set_option linter.unusedVariables false
set_option linter.unusedSimpArgs false
namespace PL

noncomputable def Lo (L L' : List (Str × V)) : Prop := ∀ x v, L.lookup x = some v → L'.lookup x = some v
structure Le (σ σ' : St) : Prop where
  loc : Lo σ.loc σ'.loc
  led : σ.H.Sublist σ'.H
theorem Lo.refl (L : List (Str × V)) : Lo L L := fun _ _ h => h
theorem Lo.trans {a b c : List (Str × V)} (h : Lo a b) (k : Lo b c) : Lo a c := fun x v e => k x v (h x v e)
theorem Lo.set {L L' : List (Str × V)} {x : Str} {v : V} (h : Lo L L') : Lo (PL.setL L x v) (PL.setL L' x v) := by
  intro y u e
  rw [lookup_setL] at e ⊢
  by_cases k : y = x
  · rw [if_pos k] at e ⊢; exact e
  · rw [if_neg k] at e ⊢; exact h y u e
theorem Le.refl (σ : St) : Le σ σ := ⟨Lo.refl _, List.Sublist.refl _⟩
theorem Le.trans {a b c : St} (h : Le a b) (k : Le b c) : Le a c := ⟨h.loc.trans k.loc, h.led.trans k.led⟩
theorem TSs.le {C : Cx} {X : XP} {st : List Stmt} {Q : Fl → St → Prop} {σ σ' : St} (k : Le σ' σ) (h : TSs C st Q X σ') : TSs C st Q X σ := h.weaken k.loc k.led
theorem TE.le {C : Cx} {X : XP} {e : Expr} {Q : V → St → Prop} {σ σ' : St} (k : Le σ' σ) (h : TE C e Q X σ') : TE C e Q X σ := fun z₀ => (h z₀).weaken k.loc k.led
theorem TB.le {C : Cx} {X : XP} {e : Expr} {Q : Bool → St → Prop} {σ σ' : St} (k : Le σ' σ) (h : TB C e Q X σ') : TB C e Q X σ := fun z₀ => (h z₀).weaken k.loc k.led

/-- a target takes a value -/
noncomputable def TAs (C : Cx) (target : Expr) (v : V) (Q : St → Prop) (X : XP) (σ : St) : Prop := ∀ z₀ x, Rep z₀ v x → TT C z₀ (assign target C.env x) (fun _ _ σ' => Q σ') X σ
theorem TAs.name {C : Cx} {X : XP} {x : Str} {p : Pos} {v : V} {Q : St → Prop} {σ : St} (k : Stores C x) (h : Q ⟨setL σ.loc x v, σ.H⟩) : TAs C (.Name x p) v Q X σ := by
  intro z₀ val r
  rw [PySem.assign_Name]
  exact TT.at_ (TT.store k r fun _ _ => h)

theorem letOwned {M : Model} {A : Around} {E : Value → Shared → Prop} {target : Expr} {I : Addr} {v : Value} {s : Shared} {o : Obj} {Q : Unit → Shared → Prop} (e : s.heap.get? I = some o) (hc : ∃ T, o.cls = .type T ∧ ownIters.contains T = false) (h : Q () s) :
    wpAny M A (letOwnedTupleGo target (.ref I) v) Q E s := by
  obtain ⟨T, hT, hn⟩ := hc
  have go : ∀ a : Addr, wpAny M A (do
      let o ← load I
      match o.cls, o.data with
      | .type n, .fields vs =>
        if ["enumerate", "zip", "dict_itemiterator", "dict_reverseitemiterator", "odict_iterator", "itertools.zip_longest", "itertools.pairwise"].contains n && vs[0]? == some (rawInt a) then
          rule "for.unpacks-the-owned-tuple"
          updateField I 0 .none
      | _, _ => pure ()) Q E s := by
    intro a
    refine wpAny_bind (wpAny_load e ?_)
    rw [hT]
    obtain ⟨cls, dct, data, sl⟩ := o
    cases data with
    | fields vs =>
      have : (["enumerate", "zip", "dict_itemiterator", "dict_reverseitemiterator", "odict_iterator", "itertools.zip_longest", "itertools.pairwise"].contains T && vs[0]? == some (rawInt a)) = false := by
        rw [show ["enumerate", "zip", "dict_itemiterator", "dict_reverseitemiterator", "odict_iterator", "itertools.zip_longest", "itertools.pairwise"].contains T = false from hn]; rfl
      show wpAny M A (if _ = true then _ else _) Q E s
      rw [this]
      exact wpAny_pure h
    | _ => exact wpAny_pure h
  have key : wpAny M A (letOwnedTupleGo (.Tuple [] 0 default) (.ref I) v) Q E s := by
    cases v with
    | ref a => exact go a
    | _ => exact wpAny_pure h
  cases target with
  | Tuple ts k p => exact key
  | List ts p => exact key
  | _ => exact wpAny_pure h

section
variable {C : Cx} {X : XP} {σ : St}

noncomputable abbrev LoopQ (I : St → Prop) (Q : Fl → St → Prop) : Fl → St → Prop := fun f σ => match f with
  | .next => I σ
  | .cont => I σ
  | .brk => Q .next σ
  | .ret w => Q (.ret w) σ
inductive ForI (C : Cx) (zs z1 : Z) (I : Addr) (J : Nat → Obj → Prop) (Inv : Nat → St → Prop) (N n : Nat) (s' : Shared) : Prop
  | mk (i : Nat) (σ' : St) (z' : Z) (o : Obj) (hn : n = N - i) (hi : i ≤ N) (lz : Z.le z1 z') (r : R C (zs.put I o) σ' z' s') (hJ : J i o) (inv : Inv i σ')
inductive ForH (C : Cx) (target : Expr) (body orelse : List Stmt) (Q : Fl → St → Prop) (v : V) (σ1 : St) : Prop
  | mk (vs : List V) (S : Led → Prop) (w : Walk C v vs S) (Inv : Nat → St → Prop) (i0 : Inv 0 σ1) (iS : ∀ i σ, Inv i σ → S σ.H)
    (turn : ∀ i u σ, vs[i]? = some u → Inv i σ → TAs C target u (fun σ' => TSs C body (LoopQ (Inv (i + 1)) Q) X0 σ') X0 σ)
    (fin : ∀ σ, Inv vs.length σ → TSs C orelse Q X0 σ)
theorem TS.for_ {target iter : Expr} {body orelse : List Stmt} {pos : Pos} {Q : Fl → St → Prop} (hh : C.A.handled = none)
    (h : TE C iter (ForH C target body orelse Q) X σ)
    (hs : ∀ x, foldedSetIterable iter C.env x = pure x := by intro _; rfl) : TS C (.For target iter body orelse pos) Q X σ := by
  intro z₀ zs z s hz hR
  refine wpAny_For ?_ hs
  refine wpAny_mono (h z₀ zs z s hz hR) ?_ fun _ _ x => x
  rintro x s1 ⟨z1, σ1, l1, R1, v, rv, vs, S, W, Inv, i0, iS, turn, fin⟩
  obtain ⟨J, WO, st⟩ := W.start z1 x rv
  have WO := WO C.A hh
  refine st zs z1 σ1 s1 _ _ (Z.le_refl _) R1 (iS _ _ i0) fun o hJ hfr => ?_
  generalize hI : s1.heap.objs.size = I
  have zsI : zs I = none := R1.rh.fresh_zs (Nat.le_of_eq hI)
  have R2 : R C (zs.put I o) σ1 z1 { s1 with heap := s1.heap.push o } := by
    refine (R1.push' o).hideAt ?_ (R1.rh.fresh_z (Nat.le_of_eq hI)) (R1.apart_new (Nat.le_of_eq hI))
    rw [← hI]; exact Heap.get?_push_size _ hfr
  refine codeAny_loop' rfl (ForI C zs z1 I J Inv vs.length) (fun n s' hi => ?_) vs.length ⟨0, σ1, z1, o, rfl, Nat.zero_le _, Z.le_refl _, R2, hJ, i0⟩
  obtain ⟨i, σ', z', o', hn, hile, lz, R', hJ', inv⟩ := hi
  obtain ⟨fs, hfs⟩ := WO.fields _ _ hJ'
  have stay := Stays.fields hfs
  have hat := R'.rh.hidden put_self stay
  show wpAny _ _ ((forTurn target (.ref I) body orelse C.env).onRaise (fun x => do noteFrame x C.env; theTreesLotGoes x)) _ _ s'
  refine wpAny_noted ?_
  simp only [forTurn]
  refine wpAny_bind (wpAny_standAt (wpAny_bind (wpAny_onRaise ?_)))
  rcases Nat.lt_or_ge i vs.length with hlt | hge
  · have hv : vs[i]? = some vs[i] := List.getElem?_eq_getElem hlt
    refine WO.item _ _ _ s' I o' i vs[i] _ _ hJ' hv R'.rh ⟨lz, iS _ _ inv⟩ hat fun h' t o'' val e1 hJ'' hsb rv' => ?_
    have R'' : R C (zs.put I o'') σ' z' { s' with heap := h', toks := t } := R'.iter zsI hR.fr stay hsb.extBut e1
    refine wpAny_bind (letOwned e1 (WO.cls _ _ hJ'') ?_)
    refine wpAny_bind (wpAny_mono (turn i _ σ' hv inv z' val rv' _ _ _ (Z.le_refl _) R'') ?_ fun _ _ x => x.absurd)
    rintro ⟨⟩ s3 ⟨z3, σ3, l3, R3, k3⟩
    refine wpAny_bind (wpAny_mono (k3 z3 _ _ _ (Z.le_refl _) R3) ?_ fun _ _ x => x.absurd)
    rintro f s4 ⟨z4, σ4, l4, R4, fl, rf, k4⟩
    have lz' := Z.le_trans (Z.le_trans lz l3) l4
    obtain ⟨fs', hfs'⟩ := WO.fields _ _ hJ''
    have again : Inv (i + 1) σ4 → ∃ m, m < n ∧ ForI C zs z1 I J Inv vs.length m s4 :=
      fun k4 => ⟨vs.length - (i + 1), by omega, i + 1, σ4, z4, o'', rfl, by omega, lz', R4, hJ'', k4⟩
    have out := R4.unhide zsI hR.fr (Stays.fields hfs') (t := s4.toks) (h' := s4.heap) fun b o _ e => e
    cases rf with
    | next => exact wpAny_pure (.inl ⟨rfl, again k4⟩)
    | cont => exact wpAny_pure (.inl ⟨rfl, again k4⟩)
    | brk => exact wpAny_pure ⟨z4, σ4, Z.le_trans l1 lz', out, .next, .next, k4⟩
    | ret rw' => exact wpAny_pure ⟨z4, σ4, Z.le_trans l1 lz', out, .ret _, .ret rw', k4⟩
  · have he : i = vs.length := by omega
    subst he
    refine WO.fin _ _ _ s' I o' _ _ hJ' R'.rh ⟨lz, iS _ _ inv⟩ hat fun h' hx => ?_
    refine wpAny_pure (.inr ⟨rfl, codeAny_block ?_⟩)
    have R'' : R C zs σ' z' { s' with heap := h' } := R'.unhide zsI hR.fr stay hx
    refine wpAny_mono (fin σ' inv z' zs z' _ (Z.le_refl _) R'') ?_ fun _ _ x => x.absurd
    rintro f s4 ⟨z4, σ4, l4, R4, q⟩
    exact ⟨z4, σ4, Z.le_trans l1 (Z.le_trans lz l4), R4, q⟩

theorem TS.while_ {test : Expr} {body orelse : List Stmt} {pos : Pos} {Q : Fl → St → Prop} (Inv : Nat → St → Prop) (n : Nat) (i0 : Inv n σ)
    (turn : ∀ n σ, Inv n σ → TB C test (fun b σ' => if b then TSs C body (LoopQ (fun σ'' => ∃ m, m < n ∧ Inv m σ'') Q) X0 σ' else TSs C orelse Q X0 σ') X0 σ) :
    TS C (.While test body orelse pos) Q X σ := by
  intro z₀ zs z s hz hR
  refine wpAny_While ?_
  refine codeAny_whileLoop (fun n s' => ∃ σ' z', Z.le z z' ∧ R C zs σ' z' s' ∧ Inv n σ') (fun n s' hi => ?_) n ⟨σ, z, Z.le_refl _, hR, i0⟩
  obtain ⟨σ', z', lz, R', inv⟩ := hi
  refine wpAny_mono (turn n σ' inv z' zs z' s' (Z.le_refl _) R') ?_ fun _ _ x => x.absurd
  rintro b s2 ⟨z2, σ2, l2, R2, k⟩
  cases b with
  | true =>
    refine wpAny_mono (k z2 zs z2 s2 (Z.le_refl _) R2) ?_ fun _ _ x => x.absurd
    rintro f s4 ⟨z4, σ4, l4, R4, fl, rf, k4⟩
    have lz' := Z.le_trans (Z.le_trans lz l2) l4
    cases rf with
    | next => obtain ⟨m, hm, i⟩ := k4; exact ⟨m, hm, σ4, z4, lz', R4, i⟩
    | cont => obtain ⟨m, hm, i⟩ := k4; exact ⟨m, hm, σ4, z4, lz', R4, i⟩
    | brk => exact ⟨z4, σ4, lz', R4, .next, .next, k4⟩
    | ret rw' => exact ⟨z4, σ4, lz', R4, .ret _, .ret rw', k4⟩
  | false =>
    refine wpAny_mono (k z2 zs z2 s2 (Z.le_refl _) R2) ?_ fun _ _ x => x.absurd
    rintro f s4 ⟨z4, σ4, l4, R4, q⟩
    exact ⟨z4, σ4, Z.le_trans (Z.le_trans lz l2) l4, R4, q⟩
end
end PL

end
section
open PySem PySem.Calls PyProof.Rows
set_option Elab.async false
set_option linter.unusedVariables false
set_option linter.unusedSimpArgs false
namespace PL

noncomputable def relabelS (scope sc : Scope) : Scope :=
  { scope with names := scope.names.map fun (n, k) => if (k == .free && sc.kind == .function && sc.names.lookup n == some .cell) then (n, .cell) else (n, k) }
theorem relabel_eq {scope sc : Scope} {env : Env} (h : env.scope = sc) : relabel scope env = relabelS scope sc := by subst h; rfl

/-- the cells that a comprehension takes over -/
noncomputable def closOf : List (Str × NameKind) → List (Str × Addr) → List (Str × Addr) → List (Str × Addr)
  | [], _, acc => acc
  | (n, k) :: r, cells, acc => closOf r cells (if k == .free then (n, (cells.lookup n).getD 0) :: acc else acc)
theorem closureFor_closOf {scope : Scope} {env : Env} (h : ∀ x ∈ scope.names, x.2 = .free → ∃ c, env.cells.lookup x.1 = some c) : closureFor scope env = pure (closOf scope.names env.cells []) := by
  unfold closureFor
  have key : ∀ (l : List (Str × NameKind)) (acc : List (Str × Addr)), (∀ x ∈ l, x.2 = .free → ∃ c, env.cells.lookup x.1 = some c) →
      (forIn l acc fun x r => match x with | (name, kind) => if kind == .free then do let a ← cellOf env name; pure (ForInStep.yield ((name, a) :: r)) else pure (ForInStep.yield r) : Sem _) = pure (closOf l env.cells acc) := by
    intro l
    induction l with
    | nil => intro acc _; rfl
    | cons y r ih =>
      intro acc hl
      obtain ⟨n, k⟩ := y
      rw [List.forIn_cons]
      cases hk : (k == NameKind.free) with
      | true =>
        obtain ⟨c, hc⟩ := hl (n, k) List.mem_cons_self (by simpa using hk)
        have : cellOf env n = pure c := by unfold cellOf; rw [hc]
        simp only [hk, if_true, this, pure_bind]
        rw [ih _ fun x hx => hl x (List.mem_cons_of_mem _ hx)]
        simp [closOf, hk, hc]
      | false =>
        simp only [hk, Bool.false_eq_true, if_false, pure_bind]
        rw [ih _ fun x hx => hl x (List.mem_cons_of_mem _ hx)]
        simp [closOf, hk]
  have := key scope.names [] h
  simp only [bind_pure]
  exact this
theorem closOf_mem : ∀ (l : List (Str × NameKind)) (cells acc : List (Str × Addr)) (p : Str × Addr), p ∈ closOf l cells acc → p ∈ acc ∨ ((p.1, NameKind.free) ∈ l ∧ p.2 = (cells.lookup p.1).getD 0)
  | [], _, _, _, h => .inl h
  | (n, k) :: r, cells, acc, p, h => by
    unfold closOf at h
    rcases closOf_mem r cells _ p h with q | ⟨h1, h2⟩
    · cases hk : (k == NameKind.free) with
      | true =>
        rw [hk, if_pos rfl] at q
        have hk : k = .free := by simpa using hk
        subst hk
        rcases List.mem_cons.mp q with q | q
        · subst q; exact .inr ⟨List.mem_cons_self, rfl⟩
        · exact .inl q
      | false =>
        rw [hk, if_neg (by decide)] at q
        exact .inl q
    · exact .inr ⟨List.mem_cons_of_mem _ h1, h2⟩
theorem closOf_keep : ∀ (l : List (Str × NameKind)) (cells acc : List (Str × Addr)) (x : Str) (c : Addr), acc.lookup x = some c → x ∉ l.map (·.1) → (closOf l cells acc).lookup x = some c
  | [], _, _, _, _, h, _ => h
  | (n, k) :: r, cells, acc, x, c, h, hn => by
    rw [List.map_cons, List.mem_cons, not_or] at hn
    unfold closOf
    refine closOf_keep r cells _ x c ?_ hn.2
    split
    · rw [List.lookup_cons, beq_eq_false_iff_ne.mpr hn.1]; exact h
    · exact h
theorem closOf_lookup : ∀ (l : List (Str × NameKind)) (cells acc : List (Str × Addr)) (x : Str) (c : Addr), (l.map (·.1)).Nodup → (x, NameKind.free) ∈ l → cells.lookup x = some c → (closOf l cells acc).lookup x = some c
  | [], _, _, _, _, _, h, _ => by cases h
  | (n, k) :: r, cells, acc, x, c, hn, h, hc => by
    rw [List.map_cons, List.nodup_cons] at hn
    unfold closOf
    rcases List.mem_cons.mp h with h | h
    · cases h
      refine closOf_keep r cells _ _ c ?_ hn.1
      simp [hc]
    · exact closOf_lookup r cells _ x c hn.2 h hc
theorem closOf_pair : ∀ (l : List (Str × NameKind)) (cells acc : List (Str × Addr)), (l.map (·.1)).Nodup → acc.Pairwise (fun x y => x.1 ≠ y.1) → (∀ p ∈ acc, p.1 ∉ l.map (·.1)) → (closOf l cells acc).Pairwise (fun x y => x.1 ≠ y.1)
  | [], _, _, _, h, _ => h
  | (n, k) :: r, cells, acc, hn, h, hd => by
    rw [List.map_cons, List.nodup_cons] at hn
    unfold closOf
    refine closOf_pair r cells _ hn.2 ?_ ?_
    · split
      · refine List.pairwise_cons.mpr ⟨fun p hp e => hd p hp ?_, h⟩
        rw [List.map_cons, ← e]; exact List.mem_cons_self
      · exact h
    · intro p hp
      split at hp
      · rcases List.mem_cons.mp hp with e | hp
        · subst e; exact hn.1
        · exact fun q => hd p hp (by rw [List.map_cons]; exact List.mem_cons_of_mem _ q)
      · exact fun q => hd p hp (by rw [List.map_cons]; exact List.mem_cons_of_mem _ q)

section
variable {C : Cx} {zs z : Z} {σ : St} {s : Shared} {I : Addr} {o o' : Obj}
theorem RH.hideAt {g : Gd} {H : Led} (r : RH g zs H z s) (e : s.heap.get? I = some o) (h0 : z I = none) (h1 : zs I = none) (h2 : I ∉ H.map (·.1)) : RH g (zs.put I o) H z s where
  hz := r.hz
  hbase := r.hbase
  hzs b p h := by
    by_cases hb : b = I
    · subst hb; rw [put_self] at h; cases h; exact ⟨o.slots, e, fun _ => rfl⟩
    · exact r.hzs b p (put_some h hb)
  disj b p h := by
    by_cases hb : b = I
    · subst hb; exact h0
    · exact r.disj b p (put_some h hb)
  hH p hp := let ⟨a, b, c⟩ := r.hH p hp; ⟨a, b, put_ne (fun w => h2 (w ▸ List.mem_map_of_mem (f := (·.1)) hp)) c⟩
  nodup := r.nodup
  gens := r.gens
  os := r.os
theorem RH.unhide {g : Gd} {H : Led} (r : RH g (zs.put I o) H z s) (h1 : zs I = none) : RH g zs H z s where
  hz := r.hz
  hbase := r.hbase
  hzs b p h := r.hzs b p (put_le_of h1 h)
  disj b p h := r.disj b p (put_le_of h1 h)
  hH p hp := let ⟨a, b, c⟩ := r.hH p hp; ⟨a, b, (put_none c).2⟩
  nodup := r.nodup
  gens := r.gens
  os := r.os
theorem Z.put_comm {a b : Addr} (h : a ≠ b) (p q : Obj) : (zs.put a p).put b q = (zs.put b q).put a p := by
  funext c
  unfold Z.put
  by_cases h1 : c = b
  · subst h1; rw [if_pos rfl, if_neg (Ne.symm h), if_pos rfl]
  · rw [if_neg h1]
    by_cases h2 : c = a
    · rw [if_pos h2, if_pos h2]
    · rw [if_neg h2, if_neg h2, if_neg h1]

theorem R.frames (hR : R C zs σ z s) : ∃ fr, C.A.frames = some fr ∧ ∀ h : Heap, (∀ b o, s.heap.get? b = some o → h.get? b = some o) → FrOK fr (hid C zs h) := by
  have ho : ∀ h : Heap, (∀ b o, s.heap.get? b = some o → h.get? b = some o) → FrOK C.outer (hid C zs h) := by
    intro h hk
    refine ⟨fun e he => ?_⟩
    obtain ⟨a, L, o, b, c, d⟩ := hR.fr.ok e he
    have c' := hid_of hR c
    refine ⟨a, L, o, b, ?_, d⟩
    unfold hid at c' ⊢
    split at c'
    · rename_i hc; rw [if_pos hc]; exact hk _ _ c'
    · rename_i hc; rw [if_neg hc]; exact c'
  rcases C.hframes with ⟨a, b⟩ | a
  · refine ⟨_, a, fun h hk => ⟨fun e he => ?_⟩⟩
    rcases List.mem_cons.mp he with rfl | he
    · obtain ⟨m, ⟨oL, es, ep, hL, hdt, _⟩, _⟩ := hR.ns
      refine ⟨by rw [C.hk]; decide, _, oL, b, ?_, _, _, hdt⟩
      unfold hid; rw [if_pos (.inl rfl)]; exact hk _ _ hL
    · exact (ho h hk).ok e he
  · exact ⟨_, a, ho⟩
end

noncomputable def TIfs (C : Cx) (ifs : List Expr) (Q : Bool → St → Prop) (X : XP) (σ : St) : Prop := ∀ z₀, TT C z₀ (forIn ifs true fun c r => if r = true then do let ok ← isTrue c C.env (eval c C.env); pure (ForInStep.yield ok) else pure (ForInStep.yield r)) (fun _ b σ' => Q b σ') X σ
theorem TIfs.nil {C : Cx} {X : XP} {σ : St} {Q : Bool → St → Prop} (h : Q true σ) : TIfs C [] Q X σ := fun z₀ => TT.pure fun _ _ => h
theorem TIfs.one {C : Cx} {X : XP} {σ : St} {c : Expr} {Q : Bool → St → Prop} (h : TB C c Q X σ) : TIfs C [c] Q X σ := by
  intro z₀
  simp only [List.forIn_cons, List.forIn_nil, if_true]
  refine TT.bind (TT.bind (TT.mono (h z₀) fun z b σ' l k => ?_))
  exact TT.pure fun _ _ => TT.pure fun _ _ => k

/-- what one turn of a list comprehension adds -/
noncomputable def CTurn (C : Cx) (target : Expr) (ifs : List Expr) (elt : Expr) (u : V) (out : Option V) (X : XP) (σ : St) : Prop :=
  TAs C target u (fun σ1 => TIfs C ifs (fun ok σ2 => if ok then TE C elt (fun v σ3 => out = some v ∧ Le σ σ3) X σ2 else out = none ∧ Le σ σ2) X σ1) X σ

noncomputable def addO (l : List V) : Option V → List V
  | none => l
  | some v => l ++ [v]

structure CompOK (scope sc : Scope) : Prop where
  kind : scope.kind = .function
  nocell : ∀ x ∈ scope.names, x.2 ≠ .cell
  nodup : (scope.names.map (·.1)).Nodup
  free : ∀ x ∈ scope.names, x.2 = .free → sc.names.lookup x.1 = some .cell
  out : sc.kind = .function

theorem lookup_of_nodup {α β : Type} [BEq α] [LawfulBEq α] : ∀ {l : List (α × β)} {p : α × β}, (l.map (·.1)).Nodup → p ∈ l → l.lookup p.1 = some p.2
  | [], _, _, h => by cases h
  | (k, c) :: r, p, hn, h => by
    rw [List.map_cons, List.nodup_cons] at hn
    rw [List.lookup_cons]
    rcases List.mem_cons.mp h with e | h
    · subst e; simp
    · have : (p.1 == k) = false := beq_eq_false_iff_ne.mpr fun e => hn.1 (e ▸ List.mem_map_of_mem (f := (·.1)) h)
      rw [this]; exact lookup_of_nodup hn.2 h
theorem mem_of_lookup' {α β : Type} [BEq α] [LawfulBEq α] : ∀ {l : List (α × β)} {x : α} {b : β}, l.lookup x = some b → (x, b) ∈ l
  | [], _, _, h => by cases h
  | (k, c) :: r, x, b, h => by
    rw [List.lookup_cons] at h
    cases e : (x == k) with
    | true => rw [e] at h; cases h; rw [eq_of_beq e]; exact List.mem_cons_self
    | false => rw [e] at h; exact List.mem_cons_of_mem _ (mem_of_lookup' h)
theorem relabel_keys (scope sc : Scope) : (relabelS scope sc).names.map (·.1) = scope.names.map (·.1) := by
  unfold relabelS
  simp only [List.map_map]
  refine List.map_congr_left fun x _ => ?_
  obtain ⟨n, k⟩ := x
  simp only [Function.comp]
  split <;> rfl
theorem relabel_cell {scope sc : Scope} (K : CompOK scope sc) {x : Str} (h : (relabelS scope sc).names.lookup x = some .cell) : (x, NameKind.free) ∈ scope.names := by
  have := mem_of_lookup' h
  unfold relabelS at this
  obtain ⟨⟨n, k⟩, hp, e⟩ := List.mem_map.mp this
  simp only at e
  split at e
  · rename_i hc
    cases e
    simp only [Bool.and_eq_true, beq_iff_eq] at hc
    rw [← hc.1.1]; exact hp
  · cases e
    exact absurd rfl (K.nocell _ hp)
end PL

end
section
open PySem PySem.Calls PyProof.Rows
set_option Elab.async false
set_option linter.unusedVariables false
set_option linter.unusedSimpArgs false
namespace PL

theorem relabel_free {scope sc : Scope} (K : CompOK scope sc) {x : Str} (h : (x, NameKind.free) ∈ scope.names) : (relabelS scope sc).names.lookup x = some .cell := by
  have hm : (x, NameKind.cell) ∈ (relabelS scope sc).names := by
    unfold relabelS
    refine List.mem_map.mpr ⟨(x, .free), h, ?_⟩
    simp [K.out, K.free _ h rfl]
  exact lookup_of_nodup (p := (x, NameKind.cell)) (by rw [relabel_keys]; exact K.nodup) hm

theorem filterMap_take {α : Type} (f : α → Option V) (xs : List α) (i : Nat) (x : α) (h : xs[i]? = some x) : (xs.take (i + 1)).filterMap f = addO ((xs.take i).filterMap f) (f x) := by
  rw [List.take_add_one, h, List.filterMap_append]
  cases e : f x <;> simp [addO, e]

section
variable {C : Cx} {X : XP} {σ : St}

inductive CompI (C' : Cx) (zz z1 : Z) (I D : Addr) (J : Nat → Obj → Prop) (N : Nat) (F : Nat → List V) (σ0 : St) (m : Nat) (s' : Shared) : Prop
  | mk (i : Nat) (z' : Z) (σ' : St) (o : Obj) (items : List Value) (k : Nat) (hm : m = N - i) (hi : i ≤ N) (lz : Z.le z1 z') (r : R C' ((zz.put I o).put D (lstO items k)) σ' z' s') (le : Le σ0 σ') (hJ : J i o) (rl : RepL z' (F i) items)
inductive CompH (C : Cx) (g : Gd) (n : Nat) (sc scope : Scope) (target : Expr) (ifs : List Expr) (elt : Expr) (K : St → List V → Led → Prop) (v : V) (σ1 : St) : Prop
  | mk (α : Type) (xs : List α) (φ : α → V) (f : α → Option V) (L : List (Str × V)) (H0 : Led) (S : Led → Prop) (w : Walk C v (xs.map φ) S) (hS : ∀ H', H0.Sublist H' → S H') (hH : H0.Sublist σ1.H)
    (hL : ∀ x u, L.lookup x = some u → σ1.loc.lookup x = some u ∧ (x, NameKind.free) ∈ scope.names) (hl : xs.length ≤ 16777216)
    (turn : ∀ C', In C' g n (relabelS scope sc) → ∀ x ∈ xs, CTurn C' target ifs elt (φ x) (f x) X0 ⟨L, H0⟩) (k : K σ1 (xs.filterMap f) H0)
theorem TT.compCore {g : Gd} {n : Nat} {sc scope : Scope} {elt target iter : Expr} {ifs : List Expr} {pos : Pos} {z₀ : Z} {Q : Z → Value → St → Prop} {use : Option (Value → Sem Unit)} (hIn : In C g n sc) (K : CompOK scope sc)
    (h : TE C iter (CompH C g n sc scope target ifs elt fun σ1 ys H0 =>
      (∀ zs' z' s' a items k Lc oL, R C (zs'.put Lc oL) ⟨σ1.loc, H0⟩ z' s' → zs' Lc = none → FrOK C.outer zs' → (∀ ov, oL.data ≠ .cell ov) → (∃ m, s'.heap.Ns Lc m) → s'.heap.get? Lc = some oL → s'.heap.get? a = some (lstO items k) → z' a = none → Apart C (zs'.put Lc oL) ⟨σ1.loc, H0⟩ a → RepL z' (ys) items →
        ∀ (Qf : Value → Shared → Prop) E, (∀ v s'' z'' σ'', Z.le z' z'' → R C zs' σ'' z'' s'' → Q z'' v σ'' → Qf v s'') → compPost C.M C.A E use Qf (.ref a) Lc (.ok .next) s')) X σ)
    (hs : ∀ x, foldedSetIterable iter C.env x = Pure.pure x := by intro _; rfl) : TT C z₀ (comprehension (.ListComp elt [⟨target, iter, ifs, 0⟩] scope pos) scope C.env (firstIterPos [⟨target, iter, ifs, 0⟩] pos) (newList []) (firstAsync [⟨target, iter, ifs, 0⟩]) (firstIter [⟨target, iter, ifs, 0⟩] C.env) use) Q X σ := by
  intro zs z s hz hR
  have hclo : ∀ x ∈ scope.names, x.2 = .free → ∃ c, C.env.cells.lookup x.1 = some c := fun x hx hf => hIn.cell _ (K.free x hx hf)
  have hnames : ∀ x ∈ scope.names, x.2 = .local → scope.names.lookup x.1 = some .local := fun x hx hl => by rw [← hl]; exact lookup_of_nodup K.nodup hx
  refine wpAny_comprehension_free (g := ⟨target, iter, ifs, 0⟩) (gs := []) rfl hs (closureFor_closOf hclo) K.kind hnames ?_
  show wpAny _ _ (eval iter C.env) _ _ s
  refine wpAny_mono (h z₀ zs z s hz hR) ?_ fun _ _ x => x
  rintro x s1 ⟨z1, σ1, l1, R1, v, rv, α, xs, φ, f, L, H0, S, W, hS, hH0, hL, hlen, turn, fin⟩
  obtain ⟨J, WO, st⟩ := W.start z1 x rv
  have WO := WO C.A hIn.calm
  refine st zs z1 σ1 s1 _ _ (Z.le_refl _) R1 (hS _ hH0) fun o hJ hfr => ?_
  refine wpAny_newList ?_ (by simp)
  refine wpAny_newFunctionEnv K.nocell (by intro x hx; simp at hx) (fun h4 hns hsb => ?_) K.kind
  have szI : (s1.heap.push o).objs.size = s1.heap.objs.size + 1 := Heap.size_push ..
  have szD : ((s1.heap.push o).push { cls := .type "list", data := .seq ([] : List Value).toArray }).objs.size = s1.heap.objs.size + 2 := by rw [Heap.size_push, szI]
  dsimp only at hns hsb ⊢
  rw [szD] at hns hsb ⊢
  rw [szI]
  have lo : ∀ b o', b < s1.heap.objs.size + 2 → ((s1.heap.push o).push { cls := .type "list", data := .seq ([] : List Value).toArray }).get? b = some o' → h4.get? b = some o' := fun b o' hb e =>
    (hsb.2 b (Nat.ne_of_lt hb)).trans (Heap.get?_push_of_some _ e)
  have eI : h4.get? s1.heap.objs.size = some o := lo _ _ (by (first | lia | omega)) (Heap.get?_push_of_some _ (Heap.get?_push_size _ hfr))
  have eD : h4.get? (s1.heap.objs.size + 1) = some (lstO [] 0) := lo _ _ (by (first | lia | omega)) (by have := Heap.get?_push_size (h := s1.heap.push o) (o := lstO [] 0) rfl; rw [szI] at this; exact this)
  have old : ∀ b o', s1.heap.get? b = some o' → h4.get? b = some o' := fun b o' e => lo _ _ (Nat.lt_of_lt_of_le (Heap.lt_size e) (Nat.le_add_right _ 2)) (Heap.get?_push_of_some _ (Heap.get?_push_of_some _ e))
  have fz : ∀ a, s1.heap.objs.size ≤ a → z1 a = none := fun a ha => R1.rh.fresh_z ha
  have fa : ∀ a, s1.heap.objs.size ≤ a → Apart C zs ⟨σ1.loc, H0⟩ a := fun a ha => let ⟨a1, a2, a3, a4⟩ := R1.apart_new ha; ⟨a1, a2, fun e => a3 ((hH0.map _).subset e), a4⟩
  have R4 : R C zs ⟨σ1.loc, H0⟩ z1 { s1 with heap := h4, toks := s1.toks + ([] : List (Str × Value)).length } := (R1.grow old).weaken (fun _ _ h => h) hH0
  generalize hs4 : ({ s1 with heap := h4, toks := s1.toks + ([] : List (Str × Value)).length } : Shared) = s4 at R4 ⊢
  have hh4 : s4.heap = h4 := by rw [← hs4]
  generalize hLc : s1.heap.objs.size + 2 = Lc at *
  generalize hD : s1.heap.objs.size + 1 = D at *
  generalize hI : s1.heap.objs.size = I at *
  have hID : I ≠ D := by (first | lia | omega)
  have hIL : Lc ≠ I := by (first | lia | omega)
  have hDL : Lc ≠ D := by (first | lia | omega)
  obtain ⟨fr, hfrA, hfrOK⟩ := R4.frames
  have fr0 : FrOK fr (hid C zs s4.heap) := hfrOK _ fun _ _ e => e
  have hidn : ∀ a, I ≤ a → hid C zs s4.heap a = none := fun a ha => by
    obtain ⟨a1, a2, a3, a4⟩ := fa a ha
    exact hid_none a2 (fun e => by obtain ⟨p, hp, e⟩ := List.mem_map.mp e; exact a4 p hp e) a1
  have r0 := R4.hide
  have rI := r0.hideAt (by rw [hh4]; exact eI) (fz I (Nat.le_refl _)) (hidn I (Nat.le_refl _)) (fa I (Nat.le_refl _)).2.2.1
  have rD := rI.hideAt (by rw [hh4]; exact eD) (fz D (by (first | lia | omega))) (put_ne (Ne.symm hID) (hidn D (by (first | lia | omega)))) (fa D (by (first | lia | omega))).2.2.1
  let C' : Cx := {
    g := C.g, A := C.A, env := compEnvC scope (closOf scope.names C.env.cells []) Lc C.env, outer := fr, n := C.n
    ro := scope.names.map (·.1)
    hk := K.kind
    hglob := C.hglob, hbuilt := C.hbuilt, hdep := C.hdep, hunits := C.hunits, hframes := .inr hfrA
    apart := by
      have hp := closOf_pair scope.names C.env.cells [] K.nodup List.Pairwise.nil (fun _ h => by cases h)
      have hmem : ∀ p ∈ closOf scope.names C.env.cells [], p ∈ C.env.cells := by
        intro p hp
        rcases closOf_mem _ _ _ p hp with h | ⟨h1, h2⟩
        · cases h
        · obtain ⟨c, hc⟩ := hclo _ h1 rfl
          have hc : C.env.cells.lookup p.1 = some c := hc
          rw [hc] at h2
          have := mem_of_lookup' hc
          have e : p = (p.1, c) := by rw [← show p.2 = c from h2]
          rw [e]; exact this
      have : ∀ l : List (Str × Addr), l.Pairwise (fun x y => x.1 ≠ y.1) → (∀ p ∈ l, p ∈ C.env.cells) → l.Pairwise (fun x y => x.2 ≠ y.2) := by
        intro l hl hm
        refine List.Pairwise.imp_of_mem ?_ hl
        intro a b ha hb hab e
        refine hab (name_of_addr C.apart (c := b.2) ?_ (hm b hb))
        rw [← e]; exact hm a ha
      exact this _ hp hmem }
  have hcell' : ∀ p ∈ closOf scope.names C.env.cells [], (p.1, NameKind.free) ∈ scope.names ∧ p ∈ C.env.cells := by
    intro p hp
    rcases closOf_mem _ _ _ p hp with h | ⟨h1, h2⟩
    · cases h
    · obtain ⟨c, hc⟩ := hclo _ h1 rfl
      have hc : C.env.cells.lookup p.1 = some c := hc
      rw [hc] at h2
      have := mem_of_lookup' hc
      have e : p = (p.1, c) := by rw [← show p.2 = c from h2]
      exact ⟨h1, by rw [e]; exact this⟩
  have hIn' : In C' g n (relabelS scope sc) := ⟨hIn.g, hIn.n, fun x => by show (relabel scope C.env).names.lookup x = _; rw [relabel_eq hIn.fn], fun x hx => by
      have hm := relabel_cell K hx
      obtain ⟨c, hc⟩ := hclo _ hm rfl
      exact ⟨c, closOf_lookup _ _ _ _ _ K.nodup hm hc⟩, hIn.calm, relabel_eq hIn.fn, hIn.gl⟩
  have cellNe : ∀ p ∈ C.env.cells, p.2 < I := by
    intro p hp
    obtain ⟨⟨ov, ic⟩, _⟩ := R1.cellsOk p hp
    exact hI ▸ ic.lt
  have kindL : ∀ x u, L.lookup x = some u → C'.env.kindOf x = some .cell := fun x u hx => by
    rw [hIn'.kind]; exact relabel_free K (hL x u hx).2
  have R0 : R C' (((hid C zs s4.heap).put I o).put D (lstO [] 0)) ⟨L, H0⟩ z1 s4 := by
    refine ⟨rD, ⟨_, by rw [hh4]; exact hns, fun x u hx hk => ?_⟩, fun x u hx hk => ?_, fun p hp => ?_, ⟨fz _ (by show I ≤ Lc; (first | lia | omega)), put_ne hDL (put_ne hIL (hidn Lc (by (first | lia | omega)))), (fa Lc (by (first | lia | omega))).2.2.1⟩, ?_⟩
    · rw [kindL x u hx] at hk; cases hk
    · obtain ⟨h1, h2⟩ := hL x u hx
      have hk1 : C.env.kindOf x = some .cell := (hIn.kind x).trans (K.free _ h2 rfl)
      obtain ⟨c, val, e1, e2, e3⟩ := R4.cells x u h1 (by rw [hk1]; rfl)
      exact ⟨c, val, closOf_lookup _ _ _ _ _ K.nodup h2 e1, e2, e3⟩
    · obtain ⟨h1, h2⟩ := hcell' p hp
      obtain ⟨a, b, _, d, e⟩ := R4.cellsOk p h2
      exact ⟨a, b, .inr (List.mem_map_of_mem (f := (·.1)) h1), Nat.ne_of_lt (Nat.lt_of_lt_of_le (cellNe p h2) (show I ≤ Lc by (first | lia | omega))), e⟩
    · exact (fr0.put (hidn I (Nat.le_refl _))).put (put_ne (Ne.symm hID) (hidn D (by (first | lia | omega))))
  have hI0 := hidn I (Nat.le_refl _)
  have hD0 := hidn D (by (first | lia | omega))
  have loop : codeAny C.M C.A (.compLoop (.ListComp elt [⟨target, iter, ifs, 0⟩] scope pos) 0 (.ref I) (.ref D) C'.env)
      (compPost C.M C.A (PX C zs z X) use (Post C zs z Q) (.ref D) Lc) s4 := by
    generalize hRes : compPost C.M C.A (PX C zs z X) use (Post C zs z Q) (.ref D) Lc = Res
    refine codeAny_loop rfl (CompI C' (hid C zs s4.heap) z1 I D J xs.length (fun i => (xs.take i).filterMap f) ⟨L, H0⟩)
      (fun m s' hi => ?_) xs.length ⟨0, z1, _, o, [], 0, rfl, Nat.zero_le _, Z.le_refl _, R0, Le.refl _, hJ, by simpa using RepL.nil⟩
    obtain ⟨i, z', σ', o', items, k, hm, hile, lz, R', le', hJ', rl⟩ := hi
    obtain ⟨fs, hfs⟩ := WO.fields _ _ hJ'
    have stay := Stays.fields hfs
    show wpAny _ _ ((compTurn (.ListComp elt [⟨target, iter, ifs, 0⟩] scope pos) 0 (.ref I) (.ref D) C'.env).onRaise (fun x => do noteFrame x C'.env; theTreesLotGoes x)) _ _ s'
    refine wpAny_noted ?_
    rw [compTurn_list]
    have R1' : R C' (((hid C zs s4.heap).put D (lstO items k)).put I o') σ' z' s' := by rw [Z.put_comm (Ne.symm hID)]; exact R'
    have hat := R1'.rh.hidden put_self stay
    refine wpAny_bind (wpAny_standAt (wpAny_bind ?_))
    rcases Nat.lt_or_ge i xs.length with hlt | hge
    · have hx : xs[i]? = some xs[i] := List.getElem?_eq_getElem hlt
      have hv : (xs.map φ)[i]? = some (φ xs[i]) := by rw [List.getElem?_map, hx]; rfl
      refine WO.item _ _ _ s' I o' i _ _ _ hJ' hv R1'.rh ⟨lz, hS _ le'.led⟩ hat fun h' t o'' val e1 hJ'' hsb rv' => ?_
      have R2 := (R1'.iter (put_ne hID hI0) (fr0.put hD0) stay hsb.extBut e1 (t := t)).weaken (σ' := ⟨L, H0⟩) le'.loc le'.led
      refine wpAny_bind (letOwned e1 (WO.cls _ _ hJ'') ?_)
      refine wpAny_bind (wpAny_mono (turn C' hIn' _ (List.getElem_mem hlt) z' val rv' _ _ _ (Z.le_refl _) R2) ?_ fun _ _ x => x.absurd)
      rintro ⟨⟩ s3 ⟨z3, σ3, l3, R3, k3⟩
      refine wpAny_bind (wpAny_mono (k3 z3 _ _ _ (Z.le_refl _) R3) ?_ fun _ _ x => x.absurd)
      rintro ok s5 ⟨z5, σ5, l5, R5, k5⟩
      obtain ⟨fs', hfs'⟩ := WO.fields _ _ hJ''
      cases ok with
      | false =>
        obtain ⟨hout, hle⟩ := k5
        refine wpAny_pure ⟨rfl, xs.length - (i + 1), by (first | lia | omega), i + 1, z5, σ5, o'', items, k, rfl, by (first | lia | omega), Z.le_trans lz (Z.le_trans l3 l5), ?_, hle, hJ'', ?_⟩
        · rw [Z.put_comm hID]; exact R5
        · rw [filterMap_take f xs i _ hx, hout]; exact rl.mono (Z.le_trans l3 l5)
      | true =>
        refine wpAny_bind (wpAny_bind (wpAny_mono (k5 z5 _ _ _ (Z.le_refl _) R5) ?_ fun _ _ x => x.absurd))
        rintro y s6 ⟨z6, σ6, l6, R6, u, ru, hout, hle⟩
        have R6' : R C' (((hid C zs s4.heap).put I o'').put D (lstO items k)) σ6 z6 s6 := by rw [Z.put_comm hID]; exact R6
        have hatD := R6'.rh.hidden put_self (Stays.list items k)
        refine wpAny_bind (wpAny_list_append_plain (l := D) (items := items.toArray) ⟨k, hatD⟩ (fun h'' hpl hsb' => ?_) ?_)
        · obtain ⟨k', hk'⟩ := hpl
          have e2 : h''.get? D = some (lstO (items ++ [y]) k') := by rw [hk']; simp [lstO]
          have R7 := R6'.iter (o' := lstO (items ++ [y]) k') (put_ne (Ne.symm hID) hD0) (fr0.put hI0) (Stays.list items k) hsb'.extBut e2 (t := s6.toks)
          refine wpAny_pure (wpAny_pure ⟨rfl, xs.length - (i + 1), by (first | lia | omega), i + 1, z6, σ6, o'', items ++ [y], k', rfl, by (first | lia | omega), Z.le_trans lz (Z.le_trans l3 (Z.le_trans l5 l6)), R7, hle, hJ'', ?_⟩)
          rw [filterMap_take f xs i _ hx, hout]
          exact (rl.mono (Z.le_trans l3 (Z.le_trans l5 l6))).append (.cons ru .nil)
        · rw [List.size_toArray, rl.length, sizeLine_eq]
          have := List.length_filterMap_le f (xs.take i)
          have := List.length_take_le i xs
          (first | lia | omega)
    · have he : i = xs.length := by (first | lia | omega)
      subst he
      have hlenm : (xs.map φ).length = xs.length := List.length_map ..
      refine WO.fin _ _ _ s' I o' _ _ (by rw [hlenm]; exact hJ') R1'.rh ⟨lz, hS _ le'.led⟩ hat fun h' hx => ?_
      refine wpAny_pure ?_
      have R2 := R1'.unhide (put_ne hID hI0) (fr0.put hD0) stay hx (t := s'.toks)
      obtain ⟨ms, hms, _⟩ := R2.ns
      have hatD := R2.rh.hidden put_self (Stays.list items k)
      have rr : RH C.g (hid C zs s4.heap) σ'.H z' { s' with heap := h' } := R2.rh.unhide hD0
      have Rb := (R4.back lz rr).weaken (σ' := ⟨σ1.loc, H0⟩) (fun _ _ h => h) le'.led
      obtain ⟨oL, esL, epL, eL, dL, _⟩ := id hms
      have apL := fa Lc (by (first | lia | omega))
      have Rl := Rb.hideAt (I := Lc) (o := oL) eL R2.locFree.1 apL
      rw [List.take_length] at rl
      obtain ⟨d1, d2, d3, d4⟩ := fa D (by (first | lia | omega))
      subst hRes
      exact fin zs z' { s' with heap := h' } D items k Lc oL Rl apL.1 hR.fr (fun ov e => by rw [dL] at e; cases e) ⟨ms, hms⟩ eL hatD (R2.rh.disj _ _ put_self) ⟨put_ne (Ne.symm hDL) d1, d2, d3, d4⟩ rl _ _
        fun v s'' z'' σ'' lz'' R'' q => ⟨z'', σ'', Z.le_trans l1 (Z.le_trans lz lz''), R'', q⟩
  exact codeAny_compStart_list loop (WO.self s4 I o _ _ hJ (by rw [hh4]; exact eI) loop)

theorem TT.listcomp {g : Gd} {n : Nat} {sc scope : Scope} {elt target iter : Expr} {ifs : List Expr} {pos : Pos} {z₀ : Z} {Q : Z → Value → St → Prop} (hIn : In C g n sc) (K : CompOK scope sc)
    (h : TE C iter (CompH C g n sc scope target ifs elt fun σ1 ys H0 =>
      (∀ zs' z' s' a items k, R C zs' ⟨σ1.loc, H0⟩ z' s' → s'.heap.get? a = some (lstO items k) → z' a = none → Apart C zs' ⟨σ1.loc, H0⟩ a → RepL z' (ys) items →
        Post C zs' z' Q (.ref a) s')) X σ)
    (hs : ∀ x, foldedSetIterable iter C.env x = Pure.pure x := by intro _; rfl) : TT C z₀ (eval (.ListComp elt [⟨target, iter, ifs, 0⟩] scope pos) C.env) Q X σ := by
  rw [eval_ListComp]
  refine TT.compCore (use := none) hIn K (h.mono ?_) hs
  rintro v σ1 ⟨α, xs, φ, f, L, H0, S, h1, h2, h3, h4, h5, h6, h7⟩
  refine ⟨α, xs, φ, f, L, H0, S, h1, h2, h3, h4, h5, h6, ?_⟩
  intro zs' z' s' a items k Lc oL R' e1 e2 e3 e4 e5 e6 e7 e8 e9 Qf E hQ
  obtain ⟨m, hm⟩ := e4
  refine ⟨m, hm, fun h' hsb => ?_⟩
  have ne : a ≠ Lc := (put_none e8.1).1
  have R'' := R'.unhideC e1 e2 e3 (t := s'.toks) hsb.extBut
  obtain ⟨z'', σ'', lz, R3, q⟩ := h7 zs' z' { s' with heap := h' } a items k R'' ((hsb.2 a ne).trans e6) e7 ⟨(put_none e8.1).2, e8.2⟩ e9
  exact hQ _ _ z'' σ'' lz R3 q
/-- `x = [comp]`: the name takes the list while the comprehension's own names still stand -/
theorem TT.listcompU {g : Gd} {n : Nat} {sc scope : Scope} {elt target iter t : Expr} {ifs : List Expr} {pos : Pos} {z₀ : Z} {Q : St → Prop} (hIn : In C g n sc) (K : CompOK scope sc)
    (h : TE C iter (CompH C g n sc scope target ifs elt fun σ1 ys H0 =>
      (TAs C t (.lst (ys)) Q X0 ⟨σ1.loc, H0⟩ ∨ ∀ a, TAs C t (.ref a) Q X0 ⟨σ1.loc, (a, .list (ys)) :: H0⟩)) X σ)
    (hs : ∀ x, foldedSetIterable iter C.env x = Pure.pure x := by intro _; rfl) :
    TT C z₀ (comprehension (.ListComp elt [⟨target, iter, ifs, 0⟩] scope pos) scope C.env (firstIterPos [⟨target, iter, ifs, 0⟩] pos) (newList []) (firstAsync [⟨target, iter, ifs, 0⟩]) (firstIter [⟨target, iter, ifs, 0⟩] C.env) (some (assign t C.env))) (fun _ _ σ' => Q σ') X σ := by
  refine TT.compCore (use := some (assign t C.env)) hIn K (h.mono ?_) hs
  rintro v σ1 ⟨α, xs, φ, f, L, H0, S, h1, h2, h3, h4, h5, h6, h7⟩
  refine ⟨α, xs, φ, f, L, H0, S, h1, h2, h3, h4, h5, h6, ?_⟩
  intro zs' z' s' a items k Lc oL R' e1 e2 e3 e4 e5 e6 e7 e8 e9 Qf E hQ
  have key : ∀ (u : V) (σ2 : St) (z2 : Z), Z.le z' z2 → Rep z2 u (.ref a) → R C (zs'.put Lc oL) σ2 z2 s' → TAs C t u Q X0 σ2 → compPost C.M C.A E (some (assign t C.env)) Qf (.ref a) Lc (.ok .next) s' := by
    intro u σ2 z2 l2 ru R2 ht
    show wpAny _ _ (assign t C.env (.ref a)) _ _ s'
    refine wpAny_mono (ht z2 _ ru _ z2 s' (Z.le_refl _) R2) ?_ fun _ _ x => x.absurd
    rintro ⟨⟩ s'' ⟨z3, σ3, l3, R3, q⟩
    obtain ⟨m, hm⟩ := e4
    obtain ⟨sl, e10, _⟩ := R3.rh.hzs Lc oL put_self
    refine ⟨m, ns_slots hm (fun o ho => ?_), fun h' hsb => ?_⟩
    · rw [e5] at ho; cases ho; exact ⟨sl, e10⟩
    · exact hQ _ _ z3 σ3 (Z.le_trans l2 l3) (R3.unhideC e1 e2 e3 (t := s''.toks) hsb.extBut) q
  rcases h7 with h7 | h7
  · have l := Z.le_put R'.rh e6
    exact key (.lst (xs.filterMap f)) _ _ l (.lst put_self (e9.mono l)) (R'.freeze e6 e8) h7
  · exact key (.ref a) _ z' (Z.le_refl _) (.ref a) (R'.ledger (o := .list (xs.filterMap f)) ⟨items, k, e6, e9⟩ e7 e8) (h7 a)
end
end PL

end
section
open PySem PySem.Calls PyProof.Rows
set_option Elab.async false
set_option linter.unusedVariables false
set_option linter.unusedSimpArgs false
set_option maxRecDepth 100000
namespace PL

noncomputable def tyOf (o : Bool) : String := if o then "bytes" else "str"

namespace BF
theorem tyty (o : Bool) : typeOf (.type (tyOf o)) = pure (.type "type") := by cases o <;> kernel_rfl
theorem kind_isn : builtinKind "issubclass.nested" = none := by decide +kernel
theorem plain_isn : plainId "issubclass.nested" = true := by decide +kernel
theorem args_isn (a b c : Value) : argsOk "issubclass.nested" ⟨[a, b, c], []⟩ := by unfold argsOk; kernel_rfl
theorem sub_ss : isSubtype (.type "str") (.type "str") = pure true := by rw [isSubtype_type]; kernel_rfl
theorem sub_bs : isSubtype (.type "bytes") (.type "str") = pure false := by rw [isSubtype_type]; kernel_rfl
theorem sub_bb : isSubtype (.type "bytes") (.type "bytes") = pure true := by rw [isSubtype_type]; kernel_rfl
end BF

section
variable {C : Cx} {X : XP} {σ : St} {Q : V → St → Prop}

theorem txt_typeIs {z : Z} {o : Bool} {l : List Nat} {x : Value} (r : Rep z (.txt o l) x) (s : Shared) : s.TypeIs x (tyOf o) := by
  have rq := r.txt_; clear r; rcases rq with ⟨rfl, t, rfl⟩ | ⟨rfl, t, rfl, h⟩
  · exact typeIs_str _ _ _
  · exact PySem.W.typeIs_bytes _ _ _

theorem call_type {o : Bool} {l : List Nat} (h : Q (.con (.type (tyOf o))) σ) : CallV C (.type "type") [.txt o l] Q X σ := by
  refine CallV.toks fun z₀ zs z s xs hz hR r => ?_
  have rq := RepL.inv r; clear r; obtain ⟨_, _, rfl, r, t⟩ := rq
  cases t.inv0; clear t
  exact call_type_of (txt_typeIs r s) (by cases o <;> decide) (PVal.same hR (.con _) h)

section
variable {prog : Program} {w : World} {A : Around} {E : Value → Shared → Prop} {s : Shared}
theorem isn_one {T S : String} {b : Bool} {k : Value} {Q : Fin → Shared → Prop} (hk : ∃ n t, k = .int n t) (hs : isSubtype (.type T) (.type S) = pure b) (hS : typeOf (.type S) = pure (.type "type")) (hq : Q (.done (.ret (.bool b))) s) :
    wpAny (model prog w) A (Builtin.«issubclass.nested» ⟨[.type T, .type S, k], []⟩) Q E s := by
  obtain ⟨n, t, rfl⟩ := hk
  unfold Builtin.«issubclass.nested»
  refine wpAny_bind (m := typeOf (.type S)) (wpAny_of_eq hS ?_)
  show wpAny _ _ (if (Value.type "type" == Value.type "type") = true then _ else _) _ _ s
  rw [if_pos (by decide)]
  repeat (any_goals (first | assumption | (rw [hs]) | wp_step))
theorem isn_call {T S : String} {b : Bool} {Q : Value → Shared → Prop} (hs : isSubtype (.type T) (.type S) = pure b) (hS : typeOf (.type S) = pure (.type "type")) (hq : Q (.bool b) s) :
    wpAny (model prog w) A (call (.builtin "issubclass.nested") [.type T, .type S, rawInt (0 + 1)]) Q E s := by
  refine call_function_any BF.kind_isn BF.plain_isn F.entry_issubclass_nested (BF.args_isn _ _ _) ?_
  exact isn_one ⟨_, _, rfl⟩ hs hS hq

/-- is the class one of the two text classes -/
theorem isn_pair {o : Bool} {a : Addr} {n : Nat} {Q : Fin → Shared → Prop} (ho : s.heap.get? a = some (tupO [.type "str", .type "bytes"] n)) (hq : Q (.done (.ret (.bool true))) s) :
    wpAny (model prog w) A (Builtin.«issubclass.nested» ⟨[.type (tyOf o), .ref a, rawInt 0], []⟩) Q E s := by
  have hT : s.TypeIs (.ref a) "tuple" := ⟨_, ho, rfl⟩
  unfold Builtin.«issubclass.nested»
  refine wpAny_bind (m := typeOf (.ref a)) (wpAny_typeOf hT ?_)
  show wpAny _ _ (if (Value.type "tuple" == Value.type "type") = true then _ else _) _ _ s
  rw [if_neg (by decide)]
  refine wpAny_bind (m := Builtin.Builtins.unionMembers (.ref a)) ?_
  unfold Builtin.Builtins.unionMembers
  refine wpAny_bind (wpAny_typeOf hT ?_)
  rw [if_neg (by decide)]
  refine wpAny_pure ?_
  refine wpAny_bind (wpAny_isInstance hT sub_tuple_tuple ?_)
  rw [if_pos rfl]
  have key : wpAny (model prog w) A (do
      for c in (← seqItems? (.ref a)).getD #[] do
        if ← truthy (← call (.builtin "issubclass.nested") [.type (tyOf o), c, rawInt (0 + 1)]) then return ← ret (.bool true)
      return ← ret (.bool false)) Q E s := by
    refine wpAny_bind ?_
    unfold seqItems?
    refine wpAny_bind (wpAny_load ho (wpAny_pure ?_))
    simp only [Option.getD_some, List.forIn_toArray, List.forIn_cons, List.forIn_nil]
    cases o with
    | false =>
      refine wpAny_bind (wpAny_bind (wpAny_bind (isn_call BF.sub_ss (BF.tyty false) ?_)))
      refine wpAny_bind (wpAny_truthy_bool ?_)
      rw [if_pos rfl]
      repeat (any_goals (first | assumption | wp_step))
    | true =>
      refine wpAny_bind (wpAny_bind (wpAny_bind (isn_call BF.sub_bs (BF.tyty false) ?_)))
      refine wpAny_bind (wpAny_truthy_bool ?_)
      rw [if_neg Bool.false_ne_true]
      refine wpAny_pure ?_
      refine wpAny_bind (wpAny_bind (isn_call BF.sub_bb (BF.tyty true) ?_))
      refine wpAny_bind (wpAny_truthy_bool ?_)
      rw [if_pos rfl]
      repeat (any_goals (first | assumption | wp_step))
  exact key
theorem issub_pair {o : Bool} {a : Addr} {n : Nat} {Q : Value → Shared → Prop} (ho : s.heap.get? a = some (tupO [.type "str", .type "bytes"] n)) (hq : Q (.bool true) s) :
    wpAny (model prog w) A (call (.builtin "issubclass") [.type (tyOf o), .ref a]) Q E s := by
  refine call_function_any F.kind_issubclass F.plain_issubclass F.entry_issubclass (F.args_issubclass_2 _ _) ?_
  exact issubclass_outer (R := fun r s' => match r with | .ok (.ret v) => Q v s' | .ok _ => False | .error e => E e s') (isn_pair ho hq)
end
theorem call_issubclass_pair {o : Bool} (h : Q (.bool true) σ) : CallV C (.builtin "issubclass") [.con (.type (tyOf o)), .tup [.con (.type "str"), .con (.type "bytes")]] Q X σ := by
  refine CallV.toks fun z₀ zs z s xs hz hR r => ?_
  have rq := RepL.inv r; clear r; obtain ⟨_, _, rfl, r, t⟩ := rq
  have tq := RepL.inv t; clear t; obtain ⟨_, _, rfl, r2, t⟩ := tq
  cases t.inv0
  clear t
  have rq := r.e; clear r; obtain ⟨_, rfl⟩ := rq
  have r2q := r2.e; clear r2; obtain ⟨_, _, _, rfl, e, hr⟩ := r2q
  have hrq := RepL.inv hr; clear hr; obtain ⟨_, _, rfl, a, b⟩ := hrq
  cases a
  have bq := RepL.inv b; clear b; obtain ⟨_, _, rfl, a, b⟩ := bq
  cases a; cases b; exact issub_pair (hR.rh.hz _ _ e) (PVal.same hR (.bool true) h)
end
end PL

end
section
open PySem PySem.Calls PyProof.Rows
set_option Elab.async false
set_option linter.unusedVariables false
set_option linter.unusedSimpArgs false
set_option maxRecDepth 100000
namespace PL

section
variable {C : Cx} {X : XP} {σ : St} {Q : V → St → Prop}

theorem CallV.grown {Q : V → St → Prop} {zs z : Z} {s : Shared} (hR : R C zs σ z s) {v : V} {x : Value} {h' : Heap} {t : Nat} (k : ∀ b o, s.heap.get? b = some o → h'.get? b = some o) (r : Rep z v x) (h : Q v σ) :
    Post C zs z (PVal Q) x { s with heap := h', toks := t } := ⟨z, σ, Z.le_refl _, hR.grow k, v, r, h⟩

theorem call_isinstance_txt {o p : Bool} {l : List Nat} (h : Q (.bool (o == p)) σ) : CallV C (.builtin "isinstance") [.txt o l, .con (.type (tyOf p))] Q X σ := by
  refine CallV.toks fun z₀ zs z s xs hz hR r => ?_
  have rq := RepL.inv r; clear r; obtain ⟨_, _, rfl, r, t⟩ := rq
  have tq := RepL.inv t; clear t; obtain ⟨_, _, rfl, r2, t⟩ := tq
  cases t.inv0
  clear t
  have r2q := r2.e
  clear r2
  obtain ⟨_, rfl⟩ := r2q
  have rq := r.txt_; clear r; rcases rq with ⟨rfl, t, rfl⟩ | ⟨rfl, t, rfl, hl⟩
  · cases p with
    | false => exact PySem.IsiPair.str_str (PVal.same hR (.bool true) h)
    | true => exact PySem.IsiPair.str_bytes (PVal.toks hR (.bool false) h)
  · cases p with
    | false => exact call_isinstance (fun _ _ _ _ s hs => by
        obtain ⟨h, g, d, t, os⟩ := s
        exact isinstance_outer (isinstance_nested_false_bytes (by decide) (BF.tyty false) BF.sub_bs hs)) (S := fun _ R s => R (.ok (.ret (.bool false))) { s with toks := s.toks + 1 }) (PVal.toks hR (.bool false) h)
    | true => exact call_isinstance (isinstance_true (BF.tyty true) BF.sub_bb) ⟨PySem.W.typeIs_bytes _ _ _, PVal.same hR (.bool true) h⟩

theorem call_len_txt {o : Bool} {l : List Nat} (hn : l.length ≤ 16777216) (h : Q (.int l.length) σ) : CallV C (.builtin "len") [.txt o l] Q X σ := by
  refine CallV.toks fun z₀ zs z s xs hz hR r => ?_
  have rq := RepL.inv r; clear r; obtain ⟨_, _, rfl, r, t⟩ := rq
  cases t.inv0
  clear t
  have rq := r.txt_; clear r; rcases rq with ⟨rfl, t, rfl⟩ | ⟨rfl, t, rfl, hl⟩
  · exact P.len_str (by rw [strlen]; (clear t hR hz s z zs z₀ h; (first | lia | omega))) (PVal.toks hR (by rw [strlen]; exact .int _ _) h)
  · exact PySem.W.len_bytes (by simp; (clear hl t hR hz s z zs z₀ h; (first | lia | omega))) (PVal.toks hR (by simpa using Rep.int (l.length : Int) _) h)
theorem call_len_list {v : V} {vs : List V} (k : IsL σ v vs) (hn : vs.length ≤ 16777216) (h : Q (.int vs.length) σ) : CallV C (.builtin "len") [v] Q X σ := by
  refine CallV.toks fun z₀ zs z s xs hz hR r => ?_
  have rq := RepL.inv r; clear r; obtain ⟨_, _, rfl, r, t⟩ := rq
  cases t.inv0; clear t
  obtain ⟨a, items, rfl, p, q⟩ := k.at r (Z.le_refl _) hR
  have e : items.toArray.size = vs.length := by rw [List.size_toArray, q.length]
  exact PySem.Calls.call_len_list p (by rw [e]; (clear q p r a hR hz s z zs z₀ h k v e items; (first | lia | omega))) (PVal.toks hR (by rw [e]; exact .int _ _) h)
theorem call_ord {c : Nat} (h : Q (.int c) σ) : CallV C (.builtin "ord") [.txt false [c]] Q X σ := by
  refine CallV.toks fun z₀ zs z s xs hz hR r => ?_
  have rq := RepL.inv r; clear r; obtain ⟨_, _, rfl, r, t⟩ := rq
  cases t.inv0
  clear t
  have rq := r.e; clear r; obtain ⟨t, rfl⟩ := rq
  exact P.ord_of_char (PVal.toks hR (.int _ _) h)
theorem call_chr {i : Int} (h0 : 0 ≤ i) (h1 : i ≤ 1114111) (h : Q (.txt false [i.toNat]) σ) : CallV C (.builtin "chr") [.int i] Q X σ := by
  refine CallV.toks fun z₀ zs z s xs hz hR r => ?_
  have rq := RepL.inv r; clear r; obtain ⟨_, _, rfl, r, t⟩ := rq
  cases t.inv0
  clear t
  have rq := r.e; clear r; obtain ⟨t, rfl⟩ := rq
  exact P.chr_of_int (by simp; (clear t hR hz s z zs z₀ h; (first | lia | omega))) (PVal.toks hR (.str _ _) h)
theorem call_min2 {a b : Int} (hh : C.A.handled = none) (h : Q (.int (if b < a then b else a)) σ) : CallV C (.builtin "min") [.int a, .int b] Q X σ := by
  refine CallV.toks fun z₀ zs z s xs hz hR r => ?_
  have rq := RepL.inv r; clear r; obtain ⟨_, _, rfl, r, t⟩ := rq
  have tq := RepL.inv t; clear t; obtain ⟨_, _, rfl, r2, t⟩ := tq
  cases t.inv0; clear t; have rq := r.e; clear r; obtain ⟨_, rfl⟩ := rq; have r2q := r2.e; clear r2; obtain ⟨_, rfl⟩ := r2q; exact min_two_ints hh fun h' tk k => CallV.grown hR k (by split <;> simp_all <;> exact .int _ _) h
theorem RepL.intItems {z : Z} {ns : List Int} : ∀ {xs : List Value}, RepL z (ns.map .int) xs → ∃ ps : List (Int × Tok), xs = ps.map (fun p => .int p.1 p.2) ∧ ps.map (·.1) = ns := by
  induction ns with
  | nil => intro xs r; exact ⟨[], r.inv0, rfl⟩
  | cons n ns ih =>
    intro xs r
    have rq := RepL.inv r; clear r; obtain ⟨_, _, rfl, r, t⟩ := rq
    obtain ⟨ps, rfl, rfl⟩ := ih t
    obtain ⟨tk, rfl⟩ := r.e
    exact ⟨(n, tk) :: ps, rfl, rfl⟩
theorem preSum_list (ps : List (Int × Tok)) : preSum (numAt ps.toArray) ps.toArray.size = (ps.map (·.1)).sum := by
  rw [preSum_eq, List.take_of_length_le (by simp)]
theorem call_sum {v : V} {ns : List Int} (hh : C.A.handled = none) (k : IsL σ v (ns.map .int)) (h : Q (.int ns.sum) σ) : CallV C (.builtin "sum") [v] Q X σ := by
  refine CallV.toks fun z₀ zs z s xs hz hR r => ?_
  have rq := RepL.inv r; clear r; obtain ⟨_, _, rfl, r, t⟩ := rq
  cases t.inv0; clear t
  obtain ⟨a, items, rfl, p, q⟩ := k.at r (Z.le_refl _) hR
  obtain ⟨ps, e1, e2⟩ := q.intItems
  have e3 : items.toArray = intItems ps.toArray := by rw [e1]; simp [PySem.intItems]
  rw [e3] at p
  refine sum_intListG hh p fun h' tk t' k => ?_
  rw [preSum_list, e2]
  exact CallV.grown hR k (.int _ _) h
theorem call_bytes {v : V} {ns : List Nat} (hh : C.A.handled = none) (k : IsL σ v (ns.map fun c : Nat => .int (c : Int))) (hr : ∀ c ∈ ns, c < 256) (hn : ns.length ≤ 16777216) (h : Q (.txt true ns) σ) :
    CallV C (.type "bytes") [v] Q X σ := by
  refine CallV.toks fun z₀ zs z s xs hz hR r => ?_
  have rq := RepL.inv r; clear r; obtain ⟨_, _, rfl, r, t⟩ := rq
  cases t.inv0; clear t
  obtain ⟨a, items, rfl, p, q⟩ := k.at r (Z.le_refl _) hR
  have q' : RepL z ((ns.map fun c : Nat => (c : Int)).map .int) items := by rw [List.map_map]; exact q
  obtain ⟨ps, e1, e2⟩ := q'.intItems
  have hi : ∀ ps : List (Int × Tok), IntsAre (ps.map fun p => .int p.1 p.2) (ps.map (·.1)) := by
    intro ps
    induction ps with
    | nil => exact .nil
    | cons p r ih => exact .cons _ _ ih
  subst e1
  refine call_bytes_ints p (hi ps) ?_ (by have := q'.length; rw [List.length_map, List.length_map] at this; rw [List.length_map] at this ⊢; rw [this]; exact size_ok hn) hh fun h' t k hk => ?_
  · rw [e2]
    intro n hn
    obtain ⟨c, hc, rfl⟩ := List.mem_map.mp hn
    have := hr c hc
    (first | lia | omega)
  · have : PySem.byteArr (ps.map (·.1)) = (ns.map UInt8.ofNat).toArray := by
      rw [e2]
      unfold PySem.byteArr
      rw [List.map_map]
      congr 1
    rw [this]
    exact CallV.grown hR hk (.bytes _ _ hr) h

theorem RepL.strItems {z : Z} {ns : List (List Nat)} : ∀ {xs : List Value}, RepL z (ns.map (.txt false)) xs → ∃ ps : List (Str × Tok), xs = strValues ps ∧ ps.map (·.1) = ns.map strOf := by
  induction ns with
  | nil => intro xs r; exact ⟨[], r.inv0, rfl⟩
  | cons n ns ih =>
    intro xs r
    have rq := RepL.inv r; clear r; obtain ⟨_, _, rfl, r, t⟩ := rq
    obtain ⟨ps, rfl, e2⟩ := ih t
    obtain ⟨tk, rfl⟩ := r.e
    exact ⟨(strOf n, tk) :: ps, rfl, by rw [List.map_cons, List.map_cons, e2]⟩
theorem joinFold (sep : Nat) : ∀ (ps : List (List Nat)) (acc : Nat), (ps.map strOf).foldl (fun a x => a + x.length + sep) acc = acc + (ps.map List.length).sum + ps.length * sep
  | [], acc => by simp
  | p :: r, acc => by
    rw [List.map_cons, List.foldl_cons, joinFold sep r, List.map_cons, List.sum_cons, List.length_cons, Nat.succ_mul]
    have : (strOf p).length = p.length := strlen
    rw [this]; (clear this; (first | lia | omega))
theorem call_join_str {sep : List Nat} {v : V} {ps : List (List Nat)} (k : IsL σ v (ps.map (.txt false))) (hn : (ps.map List.length).sum + ps.length * sep.length ≤ 16777216) (h : Q (.txt false (joinS sep ps)) σ) :
    CallV C (.builtin "str.join") [.txt false sep, v] Q X σ := by
  refine CallV.toks fun z₀ zs z s xs hz hR r => ?_
  have rq := RepL.inv r; clear r; obtain ⟨_, _, rfl, r, t⟩ := rq
  have tq := RepL.inv t; clear t; obtain ⟨_, _, rfl, r2, t⟩ := tq
  cases t.inv0; clear t
  obtain ⟨a, items, n, rfl, p, q⟩ := k.obj r2 (Z.le_refl _) hR
  have rq := r.e; clear r; obtain ⟨t, rfl⟩ := rq
  obtain ⟨l, e1, e2⟩ := q.strItems
  subst e1
  refine SC.join (D := a) (l := l) (texts := ps.map strOf) ⟨_, p, rfl, _, rfl⟩ e2 ?_ fun t' k' => ?_
  · unfold JoinOk
    rw [Bool.not_eq_true']
    show Builtin.Str.tooLong _ = false
    have := joinFold sep.length ps 0
    have e : ((ps.map strOf).toArray.foldl (fun x1 x2 => x1 + x2.length + (⟨sep.toArray⟩ : Str).length) 0) = 0 + (ps.map List.length).sum + ps.length * sep.length := by
      rw [List.foldl_toArray, strlen]; exact this
    rw [e]
    unfold Builtin.Str.tooLong
    rw [sizeLine_eq]
    simp; (clear e this q p e2 l t r2 n a hR hz s z zs z₀ h k v; (first | lia | omega))
  · have e : Txt.join ⟨sep.toArray⟩ (ps.map strOf) = strOf (joinS sep ps) := by
      rw [← str_join]; exact StrLaws.glued_eq_join _ _
    rw [e]
    exact PVal.toks hR (.str _ _) h
theorem call_join_bytes {sep : List Nat} {v : V} {ps : List (List Nat)} (k : IsL σ v (ps.map (.txt true))) (hn : (ps.map List.length).sum + ps.length * sep.length ≤ 16777216) (h : Q (.txt true (joinS sep ps)) σ) :
    CallV C (.builtin "bytes.join") [.txt true sep, v] Q X σ := by
  refine CallV.toks fun z₀ zs z s xs hz hR r => ?_
  have rq := RepL.inv r; clear r; obtain ⟨_, _, rfl, r, t⟩ := rq
  have tq := RepL.inv t; clear t; obtain ⟨_, _, rfl, r2, t⟩ := tq
  cases t.inv0; clear t
  obtain ⟨a, items, n, rfl, p, q⟩ := k.obj r2 (Z.le_refl _) hR
  have rq := r.e; clear r; obtain ⟨t, rfl, hs⟩ := rq
  have hj : (joinS sep ps).length ≤ 16777216 := by
    rw [joinS_length]
    have : sep.length * (ps.length - 1) ≤ ps.length * sep.length := by rw [Nat.mul_comm]; exact Nat.mul_le_mul_right _ (Nat.sub_le _ _)
    (clear hs t q p r2 n items a hR hz s z zs z₀ h k v; (first | lia | omega))
  refine call_meets BF.slot_join (PySem.W.typeIs_bytes _ _ _) BF.entry_join (BF.args_join _ _) (meets_bytes_join (n := n) q hs hj) ⟨p, fun t' k' => ?_⟩
  refine PVal.toks hR (.bytes _ _ fun c hc => ?_) h
  rcases joinS_mem hc with e | ⟨p', hp, e⟩
  · exact hs c e
  · obtain ⟨i, hi, e2⟩ := List.getElem_of_mem hp
    have hget : (ps.map (V.txt true))[i]? = some (.txt true p') := by rw [List.getElem?_map, List.getElem?_eq_getElem hi, e2]; rfl
    obtain ⟨x, _, rx⟩ := q.get hget
    have rxq := rx.e; clear rx; obtain ⟨_, rfl, hb⟩ := rxq
    exact hb c e
theorem call_join {o : Bool} {sep : List Nat} {v : V} {ps : List (List Nat)} (k : IsL σ v (ps.map (.txt o))) (hn : (ps.map List.length).sum + ps.length * sep.length ≤ 16777216) (h : Q (.txt o (joinS sep ps)) σ) :
    CallV C (.builtin (tyOf o ++ ".join")) [.txt o sep, v] Q X σ := by
  cases o
  · exact call_join_str k hn h
  · exact call_join_bytes k hn h
theorem call_range1 {n : Int} (h : Q (.rng 0 n 1) σ) : CallV C (.type "range") [.int n] Q X σ := by
  refine CallV.toks fun z₀ zs z s xs hz hR r => ?_
  have rq := RepL.inv r; clear r; obtain ⟨_, _, rfl, r, t⟩ := rq
  cases t.inv0
  clear t
  have rq := r.e; clear r; obtain ⟨t, rfl⟩ := rq
  refine call_range_1 ?_
  obtain ⟨R', l⟩ := hR.frozen { cls := .type "range", data := .fields #[.int 0 s.toks, .int n t, .int 1 (s.toks + 1)] } (s.toks + 1 + 1)
  exact ⟨_, _, l, R', _, .rng put_self, h⟩
theorem call_range2 {a b : Int} (h : Q (.rng a b 1) σ) : CallV C (.type "range") [.int a, .int b] Q X σ := by
  refine CallV.toks fun z₀ zs z s xs hz hR r => ?_
  have rq := RepL.inv r; clear r; obtain ⟨_, _, rfl, r, t⟩ := rq
  have tq := RepL.inv t; clear t; obtain ⟨_, _, rfl, r2, t⟩ := tq
  cases t.inv0
  clear t
  have rq := r.e; clear r; obtain ⟨t, rfl⟩ := rq
  have r2q := r2.e; clear r2; obtain ⟨u, rfl⟩ := r2q
  refine call_range_2 ?_
  obtain ⟨R', l⟩ := hR.frozen { cls := .type "range", data := .fields #[.int a t, .int b u, .int 1 s.toks] } (s.toks + 1)
  exact ⟨_, _, l, R', _, .rng put_self, h⟩
end
end PL

end
section
open PySem PySem.Calls PyProof.Rows
set_option Elab.async false
set_option linter.unusedVariables false
set_option linter.unusedSimpArgs false
set_option maxRecDepth 100000
namespace PL

section
variable {C : Cx} {X : XP} {σ : St}

theorem TE.listcompF {g : Gd} {n : Nat} {sc scope : Scope} {elt target iter : Expr} {ifs : List Expr} {pos : Pos} {Q : V → St → Prop} (hIn : In C g n sc) (K : CompOK scope sc)
    (h : TE C iter (CompH C g n sc scope target ifs elt fun σ1 ys H0 =>
      Q (.lst (ys)) ⟨σ1.loc, H0⟩) X σ)
    (hs : ∀ x, foldedSetIterable iter C.env x = pure x := by intro _; rfl) : TE C (.ListComp elt [⟨target, iter, ifs, 0⟩] scope pos) Q X σ := by
  intro z₀
  refine TT.listcomp hIn K (h.mono fun v σ1 ⟨α, xs, φ, f, L, H0, S, h1, h2, h3, h4, h5, h6, h7⟩ => ⟨α, xs, φ, f, L, H0, S, h1, h2, h3, h4, h5, h6, ?_⟩) hs
  intro zs' z' s' a items k R' e ez ap rl
  have l := Z.le_put R'.rh e
  exact ⟨_, _, l, R'.freeze e ap, _, .lst put_self (rl.mono l), h7⟩
theorem TS.expr {e : Expr} {pos : Pos} {Q : Fl → St → Prop} (h : TE C e (fun _ σ1 => Q .next σ1) X σ) (hs : swapsWith e none pos.line C.env = pure false := by rfl) : TS C (.Expr e pos) Q X σ := by
  intro z₀
  have hi : interactive C.env = false := by unfold interactive; rw [C.hk]; rfl
  rw [exec_Expr (env := C.env) e pos hi hs]
  refine TT.at_ (TT.bind (TT.mono (h z₀) ?_))
  rintro z v σ1 l ⟨_, _, q⟩
  intro zs z' s hz hR
  exact wpAny_dropValue ⟨z', σ1, Z.le_refl _, hR, .next, .next, q⟩

/-- reading `l[k]` -/
noncomputable def Get (C : Cx) (o i : V) (Q : V → St → Prop) (X : XP) (σ : St) : Prop := ∀ z₀ x y, Rep z₀ o x → Rep z₀ i y → TT C z₀ (getItem x y) (PVal Q) X σ
/-- setting `l[k]` -/
noncomputable def Put (C : Cx) (o i v : V) (Q : St → Prop) (X : XP) (σ : St) : Prop := ∀ z₀ x y u, Rep z₀ o x → Rep z₀ i y → Rep z₀ v u → TT C z₀ (setItem x y u) (fun _ _ σ' => Q σ') X σ
theorem Get.list {Q : V → St → Prop} {v : V} {vs : List V} {j : Nat} {u : V} (hl : IsL σ v vs) (hn : vs.length ≤ 16777216) (hu : vs[j]? = some u) (h : Q u σ) : Get C v (.int j) Q X σ := by
  intro z₀ x x0 rx w0 zs z s hz hR
  have w0q := w0.e; clear w0; obtain ⟨_, rfl⟩ := w0q
  obtain ⟨a, items, rfl, p, q⟩ := hl.at rx hz hR
  obtain ⟨xv, hx, r⟩ := q.get hu
  have hj := (List.getElem?_eq_some_iff.mp hu).1
  refine wpAny_getItem_list p (by (clear hj r hx xv q p rx items a hR hz s z zs z₀ h hu hn hl u v Q vs; (first | lia | omega))) (by (clear r hx xv q p rx items a hR hz s z zs z₀ h hu hl u v Q; (first | lia | omega))) (x := xv) ?_ (PVal.same hR r h)
  simpa using hx
theorem RepL.set {z : Z} {vs : List V} {xs : List Value} {v : V} {x : Value} (j : Nat) (h : RepL z vs xs) (r : Rep z v x) : RepL z (vs.set j v) (xs.set j x) := by
  refine h.ind (P := fun vs xs => ∀ j : Nat, RepL z (vs.set j v) (xs.set j x)) (fun n => .nil) (fun a t ih n => ?_) j
  cases n with
  | zero => exact .cons r t
  | succ n => exact .cons a (ih n)
theorem Put.led {Q : St → Prop} {a : Addr} {vs : List V} {j : Nat} {u : V} {H' : Led} (hu : Upd a (.list vs) (.list (vs.set j u)) σ.H H') (hn : vs.length ≤ 16777216) (hj : j < vs.length) (h : Q ⟨σ.loc, H'⟩) : Put C (.ref a) (.int j) u Q X σ := by
  intro z₀ x x0 uv rx w0 ru zs z s hz hR
  have w0q := w0.e; clear w0; obtain ⟨_, rfl⟩ := w0q
  have rxq := rx.e; clear rx; obtain ⟨_, rfl⟩ := rxq
  obtain ⟨⟨items, n, e, rl⟩, _⟩ := hR.rh.hH _ hu.mem
  have hlen := rl.length
  refine PySem.W.ki_setAt (items := items.toArray) (n := n) e (by (clear hlen rl e n hR hz s ru uv z₀ h hj hn hu H' u Q items; (first | lia | omega))) (by (clear rl e n hR hz s ru uv z₀ h hu H' u Q hlen items; (first | lia | omega))) (by simp; (clear rl e n hR hz s ru uv z₀ h hn hu H' u Q; (first | lia | omega))) ?_
  have e2 : (Obj.mapSeq (·.setIfInBounds (j : Int).toNat uv) (lstO items n)) = lstO (items.set j uv) n := by
    simp [Obj.mapSeq, lstO]
  refine ⟨z, _, Z.le_refl _, hR.upd hu (t := s.toks) (Heap.SameBut.update ..) ⟨items.set j uv, n, ?_, rl.set j (ru.mono hz)⟩, h⟩
  rw [Heap.get?_update_self _ e (by rw [e2]; rfl), e2]
end

/-! equality of plain data -/
mutual
noncomputable def toD : V → PyData
  | .none => .none
  | .bool b => .bool b
  | .int i => .int i
  | .txt _ l => .str ⟨l.toArray⟩
  | .tup vs => .tuple (toDs vs)
  | .lst vs => .list (toDs vs)
  | _ => .none
noncomputable def toDs : List V → List PyData
  | [] => []
  | v :: r => toD v :: toDs r
end
mutual
noncomputable def plainV : V → Bool
  | .none => true
  | .bool _ => true
  | .int _ => true
  | .txt o l => !o && l.all (· < 0x110000)
  | .tup vs => plainVs vs
  | .lst vs => plainVs vs
  | _ => false
noncomputable def plainVs : List V → Bool
  | [] => true
  | v :: r => plainV v && plainVs r
end
mutual
noncomputable def deepV : V → Nat
  | .tup vs => deepVs vs + 1
  | .lst vs => deepVs vs + 1
  | _ => 0
noncomputable def deepVs : List V → Nat
  | [] => 0
  | v :: r => max (deepV v) (deepVs r)
end
mutual
theorem reads_of {z : Z} {h : Heap} (k : ∀ b o, z b = some o → h.get? b = some o) : ∀ {v : V} {x : Value}, Rep z v x → plainV v = true → ∃ as, Reads h x (toD v) as
  | _, _, .none, _ => ⟨_, .none⟩
  | _, _, .bool b, _ => ⟨_, .bool b⟩
  | _, _, .int i t, _ => ⟨_, .int i t⟩
  | _, _, .str l t, _ => ⟨_, .str _ t⟩
  | _, _, .bytes l t _, e => by simp [plainV] at e
  | _, _, .tup e hr, p => let ⟨as, ra⟩ := reads_ofs k hr (by simpa [plainV] using p); ⟨_, .tuple (k _ _ e) rfl rfl (by simpa using ra)⟩
  | _, _, .lst e hr, p => let ⟨as, ra⟩ := reads_ofs k hr (by simpa [plainV] using p); ⟨_, .list (k _ _ e) rfl rfl (by simpa using ra)⟩
  | _, _, .ref a, p => by simp [plainV] at p
  | _, _, .con v, p => by simp [plainV] at p
  | _, _, .rng _, p => by simp [plainV] at p
  | _, _, .opq _ _, p => by simp [plainV] at p
theorem reads_ofs {z : Z} {h : Heap} (k : ∀ b o, z b = some o → h.get? b = some o) : ∀ {vs : List V} {xs : List Value}, RepL z vs xs → plainVs vs = true → ∃ as, ReadsAll h xs (toDs vs) as
  | _, _, .nil, _ => ⟨_, .nil⟩
  | v :: vs, _, .cons r t, p => by
    have p1 : plainV v = true ∧ plainVs vs = true := by simpa [plainVs] using p
    obtain ⟨as, ra⟩ := reads_of k r p1.1
    obtain ⟨bs, rb⟩ := reads_ofs k t p1.2
    exact ⟨_, .cons ra rb⟩
end
mutual
theorem canLay_of : ∀ {v : V}, plainV v = true → (toD v).canLay0 = true
  | .none, _ => rfl
  | .bool _, _ => rfl
  | .int _, _ => rfl
  | .txt o l, p => by simp [plainV] at p; simpa [toD, PyData.canLay0, PyData.strOk] using p.2
  | .tup vs, p => by simpa [toD, PyData.canLay0] using canLays_of (by simpa [plainV] using p)
  | .lst vs, p => by simpa [toD, PyData.canLay0] using canLays_of (by simpa [plainV] using p)
  | .ref _, p => by simp [plainV] at p
  | .con _, p => by simp [plainV] at p
  | .rng _ _ _, p => by simp [plainV] at p
  | .opq _, p => by simp [plainV] at p
theorem canLays_of : ∀ {vs : List V}, plainVs vs = true → PyData.canLayAll0 (toDs vs) = true
  | [], _ => rfl
  | v :: r, p => by
    have p1 : plainV v = true ∧ plainVs r = true := by simpa [plainVs] using p
    simp [toDs, PyData.canLayAll0, canLay_of p1.1, canLays_of p1.2]
end
mutual
theorem depth_of : ∀ (v : V), (toD v).depth = deepV v
  | .none => rfl
  | .bool _ => rfl
  | .int _ => rfl
  | .txt o l => rfl
  | .tup vs => by simp [toD, PyData.depth, deepV, depths_of vs]
  | .lst vs => by simp [toD, PyData.depth, deepV, depths_of vs]
  | .ref _ => rfl
  | .con _ => rfl
  | .rng _ _ _ => rfl
  | .opq _ => rfl
theorem depths_of : ∀ (vs : List V), PyData.depthAll (toDs vs) = deepVs vs
  | [] => rfl
  | v :: r => by simp [toDs, PyData.depthAll, deepVs, depth_of v, depths_of r]
end
section
variable {C : Cx} {X : XP} {σ : St} {Q : V → St → Prop}
theorem Cmp.eq_data {a b : V} (ha : plainV a = true) (hb : plainV b = true) (da : deepV a ≤ 64) (db : deepV b ≤ 64) (h : Q (.bool (PyData.eqv (toD a) (toD b))) σ) : Cmp C .Eq a b Q X σ := by
  intro z₀ x y rx ry zs z s hz hR
  obtain ⟨as, ra⟩ := reads_of hR.rh.hz (rx.mono hz) ha
  obtain ⟨bs, rb⟩ := reads_of hR.rh.hz (ry.mono hz) hb
  have hu := C.hunits
  refine eq_dataH ra rb ?_ ?_ (by show _ < 9900; (clear rb bs ra as hR hz s z zs ry rx y x z₀ h db da hb ha b a; (first | lia | omega))) (PVal.same hR (.bool _) h)
  · unfold SeqAt.shaped; rw [canLay_of ha, depth_of]; simp [da]
  · unfold SeqAt.shaped; rw [canLay_of hb, depth_of]; simp [db]
end
end PL

end
section
open PySem PySem.W PySem.Calls PyProof.Rows
set_option Elab.async false
set_option linter.unusedVariables false
set_option linter.unusedSimpArgs false
set_option maxRecDepth 100000
namespace PL

noncomputable def recAt (p : Program) (i : Nat) : DefRec := match p.main.body[i]? with
  | some (.FunctionDef n a b _ _ _ sc _ _ pos) => ⟨n, a, b, sc, pos⟩
  | _ => ⟨default, { posonlyargs := [], args := [], vararg := none, kwonlyargs := [], kw_defaults := [], kwarg := none, defaults := [] }, [], default, default⟩
noncomputable abbrev bodyAt (p : Program) (i : Nat) : List Stmt := (recAt p i).body
noncomputable abbrev scAt (p : Program) (i : Nat) : Scope := (recAt p i).scope
noncomputable abbrev nameAt (p : Program) (i : Nat) : Str := (recAt p i).name
noncomputable abbrev parsAt (p : Program) (i : Nat) : List Str := (recAt p i).params.args.map (·.arg)

/-- the address holds the function of the text's statement i -/
noncomputable def Fn (g : Gd) (p : Program) (i : Nat) (a : Addr) : Prop := g.mg (nameAt p i) = some (.ref a) ∧ ∃ fd, IsFn g a fd (bodyAt p i) (scAt p i) (parsAt p i)
/-- a def with a starred parameter -/
noncomputable abbrev starAt (p : Program) (i : Nat) : Str := ((recAt p i).params.vararg.map (·.arg)).getD default
noncomputable def FnS (g : Gd) (p : Program) (i : Nat) (a : Addr) : Prop := g.mg (nameAt p i) = some (.ref a) ∧ ∃ fd, IsFnS g a fd (bodyAt p i) (scAt p i) (parsAt p i) (starAt p i)
/-- names of builtins that the text does not bind -/
noncomputable def Free (g : Gd) (bs : List Str) : Prop := ∀ x ∈ bs, g.mg x = none

section
variable {C : Cx} {X : XP} {σ : St} {Q : V → St → Prop} {g : Gd} {n : Nat} {sc : Scope}
theorem Fn.kept {g : Gd} {p : Program} {i : Nat} {a : Addr} (h : Fn g p i a) : Kept g (.ref a) :=
  let ⟨_, fd, F⟩ := h; let ⟨o, e, d⟩ := F.b.at_; .fn e d
theorem TE.callG (hIn : In C g n sc) {p : Program} {i : Nat} {a : Addr} {x : Str} {np pos : Pos} {args : List Expr} (hf : Fn g p i a) (hx : nameAt p i = x) (hl : sc.names.lookup x = some .globalImplicit)
    (h : TArgs C args (fun vs σ2 => CallV C (.ref a) vs Q X σ2) X σ) (hd : (x == ("__debug__" : Str)) = false := by decide +kernel)
    (hp : (backTo pos (starEach args C.env)).any (·.1) = false := by rfl)
    (he : eval (.Call (.Name x np) args [] pos) C.env = (do callWith pos (← eval (.Name x np) C.env) [] (backTo pos (starEach args C.env)) []) := by rfl) : TE C (.Call (.Name x np) args [] pos) Q X σ := by
  have hg := hIn.g
  subst hg
  exact TE.call (TE.name_glob ((hIn.kind x).trans hl) (hx ▸ hf.1) ⟨_, rfl, hf.kept, h⟩ hd) hp he
theorem FnS.kept {g : Gd} {p : Program} {i : Nat} {a : Addr} (h : FnS g p i a) : Kept g (.ref a) :=
  let ⟨_, fd, F⟩ := h; let ⟨o, e, d⟩ := F.b.at_; .fn e d
theorem TE.callS (hIn : In C g n sc) {p : Program} {i : Nat} {a : Addr} {x : Str} {np pos : Pos} {args : List Expr} (hf : FnS g p i a) (hx : nameAt p i = x) (hl : sc.names.lookup x = some .globalImplicit)
    (h : TArgs C args (fun vs σ2 => CallV C (.ref a) vs Q X σ2) X σ) (hd : (x == ("__debug__" : Str)) = false := by decide +kernel)
    (hp : (backTo pos (starEach args C.env)).any (·.1) = false := by rfl)
    (he : eval (.Call (.Name x np) args [] pos) C.env = (do callWith pos (← eval (.Name x np) C.env) [] (backTo pos (starEach args C.env)) []) := by rfl) : TE C (.Call (.Name x np) args [] pos) Q X σ := by
  have hg := hIn.g
  subst hg
  exact TE.call (TE.name_glob ((hIn.kind x).trans hl) (hx ▸ hf.1) ⟨_, rfl, hf.kept, h⟩ hd) hp he
theorem TE.callB (hIn : In C g n sc) {bs : List Str} {x : Str} {f : Value} {np pos : Pos} {args : List Expr} (hl : sc.names.lookup x = some .globalImplicit) (hfr : Free g bs) (hm : x ∈ bs) (hv : bootBuiltins x = some f)
    (kf : ∀ g, Kept g f) (h : TArgs C args (fun vs σ2 => CallV C f vs Q X σ2) X σ) (hd : (x == ("__debug__" : Str)) = false := by decide +kernel) (hn' : x ≠ "__name__" := by decide +kernel)
    (hp : (backTo pos (starEach args C.env)).any (·.1) = false := by rfl)
    (he : eval (.Call (.Name x np) args [] pos) C.env = (do callWith pos (← eval (.Name x np) C.env) [] (backTo pos (starEach args C.env)) []) := by rfl) : TE C (.Call (.Name x np) args [] pos) Q X σ := by
  have hg := hIn.g
  subst hg
  exact TE.call (TE.name_builtin ((hIn.kind x).trans hl) (hfr x hm) hv ⟨_, rfl, kf _, h⟩ hd hn') hp he
theorem TE.nameB (hIn : In C g n sc) {bs : List Str} {x : Str} {f : Value} {np : Pos} (hl : sc.names.lookup x = some .globalImplicit) (hfr : Free g bs) (hm : x ∈ bs) (hv : bootBuiltins x = some f)
    (h : Q (.con f) σ) (hd : (x == ("__debug__" : Str)) = false := by decide +kernel) (hn' : x ≠ "__name__" := by decide +kernel) : TE C (.Name x np) Q X σ := by
  have hg := hIn.g
  subst hg
  exact TE.name_builtin ((hIn.kind x).trans hl) (hfr x hm) hv h hd hn'
theorem TE.nameL (hIn : In C g n sc) {x : Str} {np : Pos} {v : V} (hl : sc.names.lookup x = some .local) (hv : σ.loc.lookup x = some v) (h : Q v σ) (hd : (x == ("__debug__" : Str)) = false := by decide +kernel) : TE C (.Name x np) Q X σ :=
  TE.name_local ((hIn.kind x).trans hl) hv h hd
theorem TE.nameC (hIn : In C g n sc) {x : Str} {np : Pos} {v : V} (hl : sc.names.lookup x = some .cell) (hv : σ.loc.lookup x = some v) (h : Q v σ) (hd : (x == ("__debug__" : Str)) = false := by decide +kernel) : TE C (.Name x np) Q X σ :=
  TE.name_cell ((hIn.kind x).trans hl) hv h hd
theorem In.stL (hIn : In C g n sc) {x : Str} (e : sc.names.lookup x = some .local) : Stores C x := .loc ((hIn.kind x).trans e)
theorem In.stC (hIn : In C g n sc) (hr : C.ro = []) {x : Str} (e : sc.names.lookup x = some .cell) : Stores C x :=
  let ⟨c, hc⟩ := hIn.cell x e; .cell c ((hIn.kind x).trans e) hc (by rw [hr]; exact List.not_mem_nil)
theorem CallV.fnI (hIn : In C g n sc) {a : Value} {vs : List V} {m : Nat} (h : CallT g m a vs (fun v H' => Q v ⟨σ.loc, H'⟩) (fun cls H' => X cls ⟨σ.loc, H'⟩) σ.H) (hm : m ≤ n) : CallV C a vs Q X σ := by
  have hg := hIn.g
  subst hg
  exact CallV.fn (by rw [hIn.n]; exact hm) hIn.calm h
end

theorem lk_hit {L : List (Str × V)} {x : Str} {v : V} : (setL L x v).lookup x = some v := by rw [lookup_setL, if_pos rfl]
theorem lk_miss {L : List (Str × V)} {x y : Str} {v u : V} (h : y ≠ x) (k : L.lookup y = some u) : (setL L x v).lookup y = some u := by rw [lookup_setL, if_neg h]; exact k
theorem Lo.nil {L : List (Str × V)} : Lo [] L := fun _ _ h => by cases h
theorem Lo.cons {L L' : List (Str × V)} {x : Str} {v : V} (h : L'.lookup x = some v) (t : Lo L L') : Lo ((x, v) :: L) L' := by
  intro y u e
  rw [List.lookup_cons] at e
  cases k : y == x with
  | true => rw [k] at e; cases e; rw [eq_of_beq k]; exact h
  | false => rw [k] at e; exact t y u e
/-- where a name stands: tells the value, proves nothing (the kernel looks it up) -/
noncomputable def Find (_ : List (Str × V)) (_ : Str) (_ : V) : Prop := True
theorem Find.hit {L : List (Str × V)} {x : Str} {v : V} : Find (setL L x v) x v := trivial
theorem Find.hd {L : List (Str × V)} {x : Str} {v : V} : Find ((x, v) :: L) x v := trivial
theorem Find.miss {L : List (Str × V)} {x y : Str} {v u : V} (_ : Find L y u) : Find (setL L x v) y u := trivial
theorem Find.tl {L : List (Str × V)} {x y : Str} {v u : V} (_ : Find L y u) : Find ((x, v) :: L) y u := trivial
noncomputable abbrev Ig {L : List (Str × V)} {x : Str} {v : V} (_ : Find L x v) : Prop := L.lookup x = some v
noncomputable abbrev leA (n : Nat) (p : Prop) : Prop := n ≤ 16777216 ∧ p
theorem leAnd {n : Nat} {p : Prop} (h : n ≤ 16777216) (k : p) : leA n p := ⟨h, k⟩
theorem Kept.biA {id : String} : ∀ g, Kept g (.builtin id) := fun _ => .bi _
theorem Kept.tyA {id : String} : ∀ g, Kept g (.type id) := fun _ => .ty _
noncomputable def loF (L' : List (Str × V)) (L : List (Str × V)) : List (Option V) := L.foldr (fun p a => L'.lookup p.1 :: a) []
noncomputable def svF (L : List (Str × V)) : List (Option V) := L.foldr (fun p a => some p.2 :: a) []
theorem Lo.of {L L' : List (Str × V)} (h : loF L' L = svF L) : Lo L L' := by
  induction L with
  | nil => exact Lo.nil
  | cons p r ih =>
    injection h with h1 h2
    exact Lo.cons h1 (ih h2)
theorem lf_of {L L' : List (Str × V)} {names : List (Str × NameKind)} (h : loF L' L = svF L) (hm : L.foldr (fun p a => decide ((p.1, NameKind.free) ∈ names) && a) true = true) :
    ∀ y u, List.lookup y L = some u → L'.lookup y = some u ∧ (y, NameKind.free) ∈ names := by
  intro y u e
  refine ⟨Lo.of h y u e, ?_⟩
  clear h
  induction L with
  | nil => cases e
  | cons p r ih =>
    simp only [List.foldr_cons, Bool.and_eq_true, decide_eq_true_eq] at hm
    rw [List.lookup_cons] at e
    cases k : y == p.1 with
    | true => rw [eq_of_beq k]; exact hm.1
    | false => rw [k] at e; exact ih hm.2 e

section
variable {C : Cx} {X : XP} {σ : St} {Q : V → St → Prop}
theorem TE.str {x : Str} {l : List Nat} {k : Nat} {p : Pos} (e : x.cps.toList = l) (h : Q (.txt false l) σ) : TE C (.Constant (.str x) k p) Q X σ := TE.const_str (by rw [e]; exact h)
theorem TE.byt {b : List UInt8} {l : List Nat} {k : Nat} {p : Pos} (e : b.map UInt8.toNat = l) (h : Q (.txt true l) σ) : TE C (.Constant (.bytes b) k p) Q X σ := TE.const_bytes (by rw [e]; exact h)

theorem Meth.rfind {o : Bool} {l : List Nat} : Meth C σ (.txt o l) "rfind" (tyOf o ++ ".rfind") := by
  cases o
  · exact Meth.str PySem.F.slot_str_rfind PySem.F.type_str_rfind
  · exact Meth.bytes BF.slot_rfind BF.type_rfind
theorem Meth.rstrip {o : Bool} {l : List Nat} : Meth C σ (.txt o l) "rstrip" (tyOf o ++ ".rstrip") := by
  cases o
  · exact Meth.str PySem.F.slot_str_rstrip PySem.F.type_str_rstrip
  · exact Meth.bytes BF.slot_rstrip BF.type_rstrip
theorem Meth.join {o : Bool} {l : List Nat} : Meth C σ (.txt o l) "join" (tyOf o ++ ".join") := by
  cases o
  · exact Meth.str PySem.F.slot_str_join PySem.F.type_str_join
  · exact Meth.bytes BF.slot_join BF.type_join
theorem Meth.split {o : Bool} {l : List Nat} : Meth C σ (.txt o l) "split" (tyOf o ++ ".split") := by
  cases o
  · exact Meth.str PySem.F.slot_str_split PySem.F.type_str_split
  · exact Meth.bytes BF.slot_split BF.type_split
theorem call_rfind {o : Bool} {l : List Nat} {c : Nat} (h : Q (.int ((cut c l : Int) - 1)) σ) : CallV C (.builtin (tyOf o ++ ".rfind")) [.txt o l, .txt o [c]] Q X σ := by
  cases o
  · exact call_rfind_str h
  · exact call_rfind_bytes h
theorem call_rstrip {o : Bool} {l : List Nat} {c : Nat} (hn : l.length ≤ 16777216) (h : Q (.txt o (rstripS c l)) σ) : CallV C (.builtin (tyOf o ++ ".rstrip")) [.txt o l, .txt o [c]] Q X σ := by
  cases o
  · exact call_rstrip_str hn h
  · exact call_rstrip_bytes hn h
theorem TE.rfind (o : Bool) {e : Expr} {args : List Expr} {apos pos : Pos} (h : TE C e (fun ov σ1 => ∃ l, ov = .txt o l ∧ TArgs C args (fun vs σ2 => ∃ c, vs = [.txt o [c]] ∧ Q (.int ((cut c l : Int) - 1)) σ2) X σ1) X σ)
    (hp : (backTo pos (starEach args C.env)).any (·.1) = false := by rfl) (hb : attributeBase e "rfind" C.env (eval e C.env) = eval e C.env := by rfl)
    (hf : methodCallForm (args.length + 0) (backTo pos (starEach args C.env)) [] = true := by rfl) (hl : (apos.endLine == pos.line) = true := by rfl) : TE C (.Call (.Attribute e "rfind" apos) args [] pos) Q X σ := by
  refine TE.meth (id := tyOf o ++ ".rfind") (h.mono ?_) hp hb hf hl
  rintro ov σ1 ⟨l, rfl, h⟩
  refine ⟨Meth.rfind, fun p z₀ => (h p z₀).mono ?_⟩
  rintro z xs σ2 _ ⟨vs, r, c, rfl, q⟩
  exact ⟨_, r, call_rfind q⟩
theorem TE.rstrip (o : Bool) {e : Expr} {args : List Expr} {apos pos : Pos} (h : TE C e (fun ov σ1 => ∃ l, ov = .txt o l ∧ TArgs C args (fun vs σ2 => ∃ c, vs = [.txt o [c]] ∧ l.length ≤ 16777216 ∧ Q (.txt o (rstripS c l)) σ2) X σ1) X σ)
    (hp : (backTo pos (starEach args C.env)).any (·.1) = false := by rfl) (hb : attributeBase e "rstrip" C.env (eval e C.env) = eval e C.env := by rfl)
    (hf : methodCallForm (args.length + 0) (backTo pos (starEach args C.env)) [] = true := by rfl) (hl : (apos.endLine == pos.line) = true := by rfl) : TE C (.Call (.Attribute e "rstrip" apos) args [] pos) Q X σ := by
  refine TE.meth (id := tyOf o ++ ".rstrip") (h.mono ?_) hp hb hf hl
  rintro ov σ1 ⟨l, rfl, h⟩
  refine ⟨Meth.rstrip, fun p z₀ => (h p z₀).mono ?_⟩
  rintro z xs σ2 _ ⟨vs, r, c, rfl, hn, q⟩
  exact ⟨_, r, call_rstrip hn q⟩
theorem TE.join (o : Bool) {e : Expr} {args : List Expr} {apos pos : Pos} (h : TE C e (fun ov σ1 => ∃ l, ov = .txt o l ∧ TArgs C args (fun vs σ2 => ∃ v ps, vs = [v] ∧ IsL σ2 v (ps.map (.txt o)) ∧ (ps.map List.length).sum + ps.length * l.length ≤ 16777216 ∧ Q (.txt o (joinS l ps)) σ2) X σ1) X σ)
    (hp : (backTo pos (starEach args C.env)).any (·.1) = false := by rfl) (hb : attributeBase e "join" C.env (eval e C.env) = eval e C.env := by rfl)
    (hf : methodCallForm (args.length + 0) (backTo pos (starEach args C.env)) [] = true := by rfl) (hl : (apos.endLine == pos.line) = true := by rfl) : TE C (.Call (.Attribute e "join" apos) args [] pos) Q X σ := by
  refine TE.meth (id := tyOf o ++ ".join") (h.mono ?_) hp hb hf hl
  rintro ov σ1 ⟨l, rfl, h⟩
  refine ⟨Meth.join, fun p z₀ => (h p z₀).mono ?_⟩
  rintro z xs σ2 _ ⟨vs, r, v, ps, rfl, k, hn, q⟩
  exact ⟨_, r, call_join k hn q⟩
theorem TE.joinS {e : Expr} {args : List Expr} {apos pos : Pos} (h : TE C e (fun ov σ1 => ∃ l, ov = V.txt false l ∧ TArgs C args (fun vs σ2 => ∃ v ps, vs = [v] ∧ IsL σ2 v (ps.map (V.txt false)) ∧ (ps.map List.length).sum + ps.length * l.length ≤ 16777216 ∧ Q (V.txt false (joinS l ps)) σ2) X σ1) X σ)
    (hp : (backTo pos (starEach args C.env)).any (·.1) = false := by rfl) (hb : attributeBase e "join" C.env (eval e C.env) = eval e C.env := by rfl)
    (hf : methodCallForm (args.length + 0) (backTo pos (starEach args C.env)) [] = true := by rfl) (hl : (apos.endLine == pos.line) = true := by rfl) : TE C (.Call (.Attribute e "join" apos) args [] pos) Q X σ := by
  refine TE.meth (id := "str.join") (h.mono ?_) hp hb hf hl
  rintro ov σ1 ⟨l, rfl, h⟩
  refine ⟨Meth.str PySem.F.slot_str_join PySem.F.type_str_join, fun p z₀ => (h p z₀).mono ?_⟩
  rintro z xs σ2 _ ⟨vs, r, v, ps, rfl, k, hn, q⟩
  exact ⟨_, r, call_join_str k hn q⟩
end

/-- the value of `e` has this one -/
theorem Str1 : (("/" : Str)).cps.toList = [47] := by decide +kernel
theorem Str2 : ((".": Str)).cps.toList = [46] := by decide +kernel
theorem Str3 : (("" : Str)).cps.toList = [] := by decide +kernel
theorem Str4 : (("a" : Str)).cps.toList = [97] := by decide +kernel
theorem Str5 : ((".." : Str)).cps.toList = [46, 46] := by decide +kernel
theorem Byt1 : (([47] : List UInt8)).map UInt8.toNat = [47] := by decide +kernel
theorem Byt2 : (([46] : List UInt8)).map UInt8.toNat = [46] := by decide +kernel
theorem Byt3 : (([] : List UInt8)).map UInt8.toNat = [] := by decide +kernel
theorem Byt4 : (([46, 46] : List UInt8)).map UInt8.toNat = [46, 46] := by decide +kernel

noncomputable abbrev BI : List Str := ["len", "ord", "chr", "abs", "min", "max", "sum", "isinstance", "issubclass", "sorted", "divmod", "range", "list", "tuple", "bytes", "str", "int", "bool", "type", "enumerate", "bytearray", "map", "iter", "ValueError", "TypeError", "AttributeError", "BytesWarning"]
namespace BI
theorem len : bootBuiltins "len" = some (.builtin "len") := by kernel_rfl
theorem ord : bootBuiltins "ord" = some (.builtin "ord") := by kernel_rfl
theorem chr : bootBuiltins "chr" = some (.builtin "chr") := by kernel_rfl
theorem abs : bootBuiltins "abs" = some (.builtin "abs") := by kernel_rfl
theorem min : bootBuiltins "min" = some (.builtin "min") := by kernel_rfl
theorem max : bootBuiltins "max" = some (.builtin "max") := by kernel_rfl
theorem sum : bootBuiltins "sum" = some (.builtin "sum") := by kernel_rfl
theorem isinstance : bootBuiltins "isinstance" = some (.builtin "isinstance") := by kernel_rfl
theorem issubclass : bootBuiltins "issubclass" = some (.builtin "issubclass") := by kernel_rfl
theorem divmod : bootBuiltins "divmod" = some (.builtin "divmod") := by kernel_rfl
theorem range : bootBuiltins "range" = some (.type "range") := by kernel_rfl
theorem list : bootBuiltins "list" = some (.type "list") := by kernel_rfl
theorem tuple : bootBuiltins "tuple" = some (.type "tuple") := by kernel_rfl
theorem bytes : bootBuiltins "bytes" = some (.type "bytes") := by kernel_rfl
theorem str : bootBuiltins "str" = some (.type "str") := by kernel_rfl
theorem bool : bootBuiltins "bool" = some (.type "bool") := by kernel_rfl
theorem type : bootBuiltins "type" = some (.type "type") := by kernel_rfl
theorem bytearray : bootBuiltins "bytearray" = some (.type "bytearray") := by kernel_rfl
end BI

theorem ite_t {c : Prop} [Decidable c] {A B : Prop} (h : c) (k : A) : if c then A else B := by rw [if_pos h]; exact k
theorem ite_f {c : Prop} [Decidable c] {A B : Prop} (h : ¬ c) (k : B) : if c then A else B := by rw [if_neg h]; exact k
theorem ite_b {c : Prop} [Decidable c] {A B : Prop} (h1 : c → A) (h2 : ¬ c → B) : if c then A else B := by
  by_cases h : c
  · rw [if_pos h]; exact h1 h
  · rw [if_neg h]; exact h2 h
theorem start1 {x : Str} {a : V} {H : Led} : Le ⟨[(x, a)], H⟩ ⟨bindV ([x].zip [a]) [], H⟩ := ⟨Lo.cons lk_hit Lo.nil, List.Sublist.refl _⟩
theorem start2 {x y : Str} {a b : V} {H : Led} (h : x ≠ y) : Le ⟨[(x, a), (y, b)], H⟩ ⟨bindV ([x, y].zip [a, b]) [], H⟩ := ⟨Lo.cons (lk_miss h lk_hit) (Lo.cons lk_hit Lo.nil), List.Sublist.refl _⟩
theorem start3 {x y z : Str} {a b c : V} {H : Led} (h : x ≠ y) (h2 : x ≠ z) (h3 : y ≠ z) : Le ⟨[(x, a), (y, b), (z, c)], H⟩ ⟨bindV ([x, y, z].zip [a, b, c]) [], H⟩ :=
  ⟨Lo.cons (lk_miss h2 (lk_miss h lk_hit)) (Lo.cons (lk_miss h3 lk_hit) (Lo.cons lk_hit Lo.nil)), List.Sublist.refl _⟩
theorem start4 {x y z w : Str} {a b c d : V} {H : Led} (h : x ≠ y) (h2 : x ≠ z) (h3 : x ≠ w) (h4 : y ≠ z) (h5 : y ≠ w) (h6 : z ≠ w) : Le ⟨[(x, a), (y, b), (z, c), (w, d)], H⟩ ⟨bindV ([x, y, z, w].zip [a, b, c, d]) [], H⟩ :=
  ⟨Lo.cons (lk_miss h3 (lk_miss h2 (lk_miss h lk_hit))) (Lo.cons (lk_miss h5 (lk_miss h4 lk_hit)) (Lo.cons (lk_miss h6 lk_hit) (Lo.cons lk_hit Lo.nil))), List.Sublist.refl _⟩
/-- what is plain about a def -/
structure Plain (d : DefRec) : Prop where
  kind : d.scope.kind = .function
  co : d.scope.isCoroutine = false
  gen : d.scope.isGenerator = false
  pos : d.params.posonlyargs = []
  va : d.params.vararg = none
  ko : d.params.kwonlyargs = []
  kd : d.params.kw_defaults = []
  kw : d.params.kwarg = none
  df : d.params.defaults = []
  names : (d.params.args.map (·.arg)).all (fun x => d.scope.names.lookup x == some .local || d.scope.names.lookup x == some .cell) = true
  nodup : ((cellsFrom 0 d.scope.names []).map (·.1)).Nodup

theorem fn_of {g : Gd} {p : Program} {i : Nat} (P : Plain (recAt p i)) (hbind : ∀ (pm code doc : Value) (xs : List Value), xs.length = (parsAt p i).length → bindArgs (docDef (recAt p i).name (recAt p i).params (recAt p i).body (recAt p i).scope pm code doc) ⟨xs, []⟩ = pure ((parsAt p i).zip xs))
    (h : ∃ a o pm code doc, g.mg (recAt p i).name = some (.ref a) ∧ g.base.get? a = some o ∧ o.data = .func (docDef (recAt p i).name (recAt p i).params (recAt p i).body (recAt p i).scope pm code doc) ∧ g.base.CodeRec code (recAt p i).name) :
    ∃ a, Fn g p i a := by
  obtain ⟨a, o, pm, code, doc, h1, h2, h3, h4⟩ := h
  refine ⟨a, h1, _, ⟨⟨o, h2, h3⟩, h4, rfl, rfl, rfl, rfl, rfl, P.kind, P.co, P.gen, P.nodup⟩, hbind pm code doc, fun x hx => ?_⟩
  have := List.all_eq_true.mp P.names x hx
  simpa using this
structure PlainS (d : DefRec) : Prop where
  kind : d.scope.kind = .function
  co : d.scope.isCoroutine = false
  gen : d.scope.isGenerator = false
  names : (d.params.args.map (·.arg) ++ [(d.params.vararg.map (·.arg)).getD default]).all (fun x => d.scope.names.lookup x == some .local || d.scope.names.lookup x == some .cell) = true
  nodup : ((cellsFrom 0 d.scope.names []).map (·.1)).Nodup
theorem fn_ofS {g : Gd} {p : Program} {i : Nat} (P : PlainS (recAt p i)) (hbind : ∀ (pm code doc : Value) (xs : List Value), (parsAt p i).length ≤ xs.length → bindArgs (docDef (recAt p i).name (recAt p i).params (recAt p i).body (recAt p i).scope pm code doc) ⟨xs, []⟩ = (PySem.newTuple (xs.drop (parsAt p i).length) >>= fun t => pure ((parsAt p i).zip xs ++ [(starAt p i, t)])))
    (h : ∃ a o pm code doc, g.mg (recAt p i).name = some (.ref a) ∧ g.base.get? a = some o ∧ o.data = .func (docDef (recAt p i).name (recAt p i).params (recAt p i).body (recAt p i).scope pm code doc) ∧ g.base.CodeRec code (recAt p i).name) :
    ∃ a, FnS g p i a := by
  obtain ⟨a, o, pm, code, doc, h1, h2, h3, h4⟩ := h
  refine ⟨a, h1, _, ⟨⟨o, h2, h3⟩, h4, rfl, rfl, rfl, rfl, rfl, P.kind, P.co, P.gen, P.nodup⟩, hbind pm code doc, fun x hx => ?_⟩
  have := List.all_eq_true.mp P.names x hx
  simpa using this
noncomputable def gdOf (prog : Program) (w : World) {p : Program} {loose : List Str} {mean : ExcName → Option Value} {mg mb : Str → Option Value} (s : Shared) (T : Top p loose mean mg mb s.heap) : Gd :=
  { prog := prog, w := w, base := s.heap, os := s.os, mg := mg, mb := mb, hmg := T.g, hmb := T.b, lim := T.nolimit, hbi := T.builtins }
theorem wellInts {P : Params} {h : Heap} : ∀ (xs : List Int) (vs : List Value), WellAll P h vs (ofPys (xs.map .int)) → RepL (fun a => h.get? a) (xs.map .int) vs := by
  intro xs
  induction xs with
  | nil => intro vs w; cases w; exact .nil
  | cons x xs ih =>
    intro vs w
    cases w with
    | cons a b => cases a; exact .cons (.int _ _) (ih _ b)
theorem finish {p : Program} {loose : List Str} {mean : ExcName → Option Value} {mg mb : Str → Option Value} {prog : Program} {w : World} {s : Shared} (T : Top p loose mean mg mb s.heap) (hg : s.gens = #[]) {fa l : Addr} {xs : List Int} {P : Params}
    (hw : Well P s.heap (.ref l) (ofPy (.list (xs.map .int)))) {c : ClaimW} {cl : Str → Option Addr} {mean' : ExcName → Option Value} {args : List WData}
    (main : CallT (gdOf prog w s T) 100 (.ref fa) [.lst (xs.map .int)] (fun v _ => v = .bool true) (fun _ _ => False) [])
    (hn : ∀ cls, c.raises args cls = false) (hp : c.post args (.bool true) args = true) : codeAny (model prog w) callerA (.call (.ref fa) ⟨[.ref l], []⟩) (GoodW c cl mean' args s) s := by
  have rh : RH (gdOf prog w s T) (fun _ => none) [] (fun a => s.heap.get? a) s :=
    ⟨fun _ _ e => e, fun _ _ e => e, fun _ _ e => (by cases e), fun _ _ e => (by cases e), fun _ h => (by cases h), List.nodup_nil, hg, rfl⟩
  have hl : Rep (fun a => s.heap.get? a) (.lst (xs.map .int)) (.ref l) := by
    cases hw with
    | list e ha => exact .lst (n := 0) e (wellInts _ _ ha)
  refine codeAny_mono (main callerA [] (fun _ => none) _ s _ (by decide +kernel) (by decide +kernel) rfl rfl ⟨fun e he => (by cases he)⟩ rh (.cons hl .nil)) ?_
  intro r s' hr
  cases r with
  | ok fl =>
    cases fl with
    | ret val =>
      obtain ⟨z', H', v, lz, r', rv, rfl⟩ := hr
      have rvq := rv.e; clear rv; obtain ⟨_, rfl⟩ := rvq
      exact ⟨.inl ⟨_, .bool true, [], rfl, hn, .bool true, hp, fun _ => ⟨List.nodup_nil, fun _ h => (by cases h)⟩⟩, fun b o e => r'.hz b o (r'.hbase b o e), r'.os, r'.gens⟩
    | _ => exact hr.elim
  | error e =>
    obtain ⟨_, _, _, _, _, _, x⟩ := hr
    exact x.elim
theorem free_of {p : Program} {loose : List Str} {mean : ExcName → Option Value} {mg mb : Str → Option Value} {prog : Program} {w : World} {s : Shared} (T : Top p loose mean mg mb s.heap)
    (key : ∀ x ∈ BI, x ∉ startupNames ∧ x ∉ loose ∧ x ∉ (recsOf p).map (·.name) ∧ x ∉ (litsOf p).map (·.1) ∧ x ∉ (clssOf p loose).map (·.name)) : Free (gdOf prog w s T) BI :=
  fun x hx => let ⟨a, b, c, d, e⟩ := key x hx; T.free x a b c d e
end PL

end
section
open PySem PySem.Calls PyProof.Rows
set_option Elab.async false
set_option linter.unusedVariables false
set_option linter.unusedSimpArgs false
set_option maxRecDepth 100000
namespace PL

theorem clamp_nat (n k : Nat) : (max 0 (min (k : Int) (n : Int))).toNat = min k n := by
  rcases Nat.le_total k n with h | h
  · rw [Int.min_eq_left (Int.ofNat_le.mpr h), Int.max_eq_right (Int.natCast_nonneg k), Int.toNat_natCast, Nat.min_eq_left h]
  · rw [Int.min_eq_right (Int.ofNat_le.mpr h), Int.max_eq_right (Int.natCast_nonneg n), Int.toNat_natCast, Nat.min_eq_right h]
theorem clip_nat (n k : Nat) : clipAt n (k : Int) = min k n := by
  unfold clipAt
  rw [if_neg (Int.not_lt.mpr (Int.natCast_nonneg k)), clamp_nat]
theorem clip_m1 (n : Nat) : clipAt n (-1) = n - 1 := by
  unfold clipAt
  rw [if_pos (by decide)]
  cases n with
  | zero => rfl
  | succ k =>
    have e : (-1 : Int) + ((k + 1 : Nat) : Int) = (k : Int) := by (first | lia | omega)
    rw [e, clamp_nat, Nat.min_eq_left (Nat.le_succ k)]; rfl
theorem sl_to {α : Type} (l : List α) (j : Nat) : sl l none (some (j : Int)) = l.take j := by
  simp only [sl, Option.elim_none, Option.elim_some, List.drop_zero, clip_nat, Nat.sub_zero]
  by_cases h : j ≤ l.length
  · rw [Nat.min_eq_left h]
  · rw [Nat.min_eq_right (by (first | lia | omega)), List.take_of_length_le (Nat.le_refl _), List.take_of_length_le (by (first | lia | omega))]
theorem sl_from {α : Type} (l : List α) (i : Nat) : sl l (some (i : Int)) none = l.drop i := by
  simp only [sl, Option.elim_none, Option.elim_some, clip_nat]
  by_cases h : i ≤ l.length
  · rw [Nat.min_eq_left h]; exact List.take_of_length_le (by simp)
  · rw [Nat.min_eq_right (by (first | lia | omega)), List.drop_eq_nil_of_le (by (clear h i; (first | lia | omega))), List.drop_eq_nil_of_le (by (first | lia | omega))]; simp
theorem upTo_map : ∀ (n : Nat) (a : Nat), upTo (a : Int) n = (List.range n).map fun k : Nat => V.int ((a + k : Nat) : Int) := by
  intro n a
  apply List.ext_getElem?
  intro i
  rw [upGet, List.getElem?_map]
  by_cases h : i < n
  · rw [if_pos h, List.getElem?_range h]; simp
  · rw [if_neg h, List.getElem?_eq_none (by simpa using h)]; rfl
section
variable {C : Cx} {X : XP} {σ : St} {Q : V → St → Prop}
theorem Walk.rngAB {a b : Nat} (ha : a ≤ 1000000) (hb : b ≤ 1000000) : Walk C (.rng (a : Int) (b : Int) 1) ((List.range (b - a)).map fun k : Nat => V.int ((a + k : Nat) : Int)) (fun _ => True) := by
  have := Walk.rng (C := C) (small_range (a := a) (b := b) (by (clear hb b ha; (first | lia | omega))) (by (clear hb b; (first | lia | omega))) (by (clear ha a hb; (first | lia | omega))) (by (clear ha a; (first | lia | omega))))
  rw [show ((b : Int) - a).toNat = b - a by (clear this hb ha; (first | lia | omega)), upTo_map] at this
  exact this
theorem Walk.rngN {b : Nat} (hb : b ≤ 1000000) : Walk C (.rng 0 (b : Int) 1) ((List.range b).map fun k : Nat => V.int (k : Int)) (fun _ => True) := by
  have := Walk.rngAB (C := C) (a := 0) (b := b) (by (clear hb b; (first | lia | omega))) hb
  simpa using this
theorem swaps_cell {e : Expr} {x : Str} {p : Pos} {n : Nat} (h : C.env.kindOf x = some .cell) : swapsWith e (some (.Name x p)) n C.env = pure false := by
  have e1 : (C.env.kindOf x == some NameKind.local) = false := by rw [h]; rfl
  unfold swapsWith
  split <;> simp [e1]
theorem TS.assignC {g : Gd} {n : Nat} {sc : Scope} (hIn : In C g n sc) (hr : C.ro = []) {x : Str} {p p' : Pos} {e : Expr} {Q : Fl → St → Prop} (k : sc.names.lookup x = some .cell) (h : TE C e (fun v σ1 => Q .next ⟨setL σ1.loc x v, σ1.H⟩) X σ) : TS C (.Assign [.Name x p'] e p) Q X σ :=
  TS.assign (hIn.stC hr k) h (swaps_cell ((hIn.kind x).trans k))
theorem TE.cut {P : V → St → Prop} {e : Expr} (h : TE C e P X σ) (k : ∀ v σ', P v σ' → Q v σ') : TE C e Q X σ := h.mono k
end
/-- a list of counts -/
noncomputable def cnt (n : Nat) (F : Nat → Int) : List V := (List.range n).map fun k => V.int (F k)
theorem plainVs_all : ∀ {vs : List V}, (∀ v ∈ vs, plainV v = true) → plainVs vs = true
  | [], _ => rfl
  | v :: r, h => by simp [plainVs, h v (by simp), plainVs_all fun x hx => h x (List.mem_cons_of_mem _ hx)]
theorem deepVs_le {n : Nat} : ∀ {vs : List V}, (∀ v ∈ vs, deepV v ≤ n) → deepVs vs ≤ n
  | [], _ => Nat.zero_le _
  | v :: r, h => by
    have h1 := h v (by simp)
    have h2 := deepVs_le (vs := r) fun x hx => h x (List.mem_cons_of_mem _ hx)
    simp [deepVs]; (clear h; (first | lia | omega))
section
variable {C : Cx} {X : XP} {σ : St} {Q : V → St → Prop}
end
theorem filterMap_some {α β : Type} (l : List α) (f : α → β) : l.filterMap (fun x => some (f x)) = l.map f := by
  induction l with
  | nil => rfl
  | cons a r ih => simp
theorem Le.both {L : List (Str × V)} {H : Led} {σ : St} {x : Str} {v : V} (h : Le ⟨L, H⟩ σ) : Le ⟨PL.setL L x v, H⟩ ⟨PL.setL σ.loc x v, σ.H⟩ := ⟨h.loc.set, h.led⟩
theorem range_item {m i : Nat} {φ : Nat → V} {u : V} (h : ((List.range m).map φ)[i]? = some u) : i < m ∧ u = φ i := by
  rw [List.getElem?_map] at h
  by_cases hi : i < m
  · rw [List.getElem?_range hi] at h; cases h; exact ⟨hi, rfl⟩
  · rw [List.getElem?_eq_none (by simpa using hi)] at h; cases h
section
variable {C : Cx} {X : XP} {σ : St}
end
end PL

end
section
open PySem PySem.Calls PyProof.Rows
set_option Elab.async false
set_option linter.unusedVariables false
set_option linter.unusedSimpArgs false
set_option maxRecDepth 100000
namespace PL

theorem strsFrom_rep {z : Z} : ∀ (ps : List (List Nat)) (tk : Nat), RepL z (ps.map (.txt false)) (strsFrom tk (ps.map strOf))
  | [], tk => .nil
  | p :: r, tk => .cons (.str p tk) (strsFrom_rep r (tk + 1))
section
variable {prog : Program} {w : World} {A : Around} {E : Value → Shared → Prop} {s : Shared} {l : List Nat} {c : Nat} {t u : Tok}
theorem call_str_split {Q : Value → Shared → Prop} (hn : l.length ≤ 10000000)
    (h : ∀ xs k, (∀ z, RepL z ((splitS c l).map (.txt false)) xs) → Q (.ref s.heap.objs.size) { s with heap := s.heap.push (lstO xs 0), toks := k }) :
    wpAny (model prog w) A (call (.builtin "str.split") [.str ⟨l.toArray⟩ t, .str ⟨#[c]⟩ u]) Q E s := by
  have hs := str_split l c
  have hx : (⟨l.toArray⟩ : Str).length ≤ sizeLine := by rw [strlen]; exact size_ok (by (clear hs h Q; (first | lia | omega)))
  have hy : ((⟨#[c]⟩ : Str).length == 0) = false := rfl
  by_cases h1 : (decide ((⟨l.toArray⟩ : Str).length < (⟨#[c]⟩ : Str).length) || decide (Builtin.Str.strKind ⟨l.toArray⟩ < Builtin.Str.strKind ⟨#[c]⟩)) = true
  · have e : (splitS c l).map strOf = [⟨l.toArray⟩] := by rw [← hs]; unfold Txt.split; rw [if_pos h1]
    refine call_meets PySem.F.slot_str_split (typeIs_str _ _ _) PySem.F.entry_str_split (PySem.F.args_str_split_2 _ _) (meets_str_split_cannot_occur _ _ t u h1) ?_
    refine h [.str ⟨l.toArray⟩ t] s.toks fun z => ?_
    have e2 : splitS c l = [l] := by
      match hsp : splitS c l with
      | [] => exact absurd hsp (splitS_ne c l)
      | [p] => rw [hsp] at e; simp [strOf] at e; rw [e]
      | p :: q :: r => rw [hsp] at e; simp at e
    rw [e2]; exact .cons (.str l t) .nil
  · have h1' := Bool.not_eq_true _ ▸ h1
    have h1' : (decide ((⟨l.toArray⟩ : Str).length < (⟨#[c]⟩ : Str).length) || decide (Builtin.Str.strKind ⟨l.toArray⟩ < Builtin.Str.strKind ⟨#[c]⟩)) = false := by simpa using h1
    cases hf : (Builtin.Str.occurrences ⟨l.toArray⟩ ⟨#[c]⟩ 0 (⟨l.toArray⟩ : Str).length ((⟨l.toArray⟩ : Str).length + 1)).isEmpty with
    | true =>
      have e : (splitS c l).map strOf = [⟨l.toArray⟩] := by rw [← hs]; unfold Txt.split; rw [if_neg h1, if_pos hf]
      refine call_meets PySem.F.slot_str_split (typeIs_str _ _ _) PySem.F.entry_str_split (PySem.F.args_str_split_2 _ _) (meets_str_split_not_found _ _ t u h1' hy hf) ?_
      refine h [.str ⟨l.toArray⟩ t] s.toks fun z => ?_
      have e2 : splitS c l = [l] := by
        match hsp : splitS c l with
        | [] => exact absurd hsp (splitS_ne c l)
        | [p] => rw [hsp] at e; simp [strOf] at e; rw [e]
        | p :: q :: r => rw [hsp] at e; simp at e
      rw [e2]; exact .cons (.str l t) .nil
    | false =>
      have e : Builtin.Str.partsBetween ⟨l.toArray⟩ (Builtin.Str.occurrences ⟨l.toArray⟩ ⟨#[c]⟩ 0 (⟨l.toArray⟩ : Str).length ((⟨l.toArray⟩ : Str).length + 1)) (⟨#[c]⟩ : Str).length = (splitS c l).map strOf := by
        rw [← hs]; unfold Txt.split; rw [if_neg h1, if_neg (by rw [hf]; decide)]
      refine call_meets PySem.F.slot_str_split (typeIs_str _ _ _) PySem.F.entry_str_split (PySem.F.args_str_split_2 _ _) (meets_str_split_sep _ _ t u h1' hy hf hx ?_) ?_
      · rw [e, List.length_map]
        exact size_ok (Nat.le_trans (splitS_length c l) (by (first | lia | omega)))
      · rw [e]
        exact h _ _ fun z => strsFrom_rep (splitS c l) s.toks
end

section
variable {C : Cx} {X : XP} {σ : St} {Q : V → St → Prop}
theorem call_split {o : Bool} {l : List Nat} {c : Nat} (hn : l.length ≤ 10000000) (h : Q (.lst ((splitS c l).map (.txt o))) σ) : CallV C (.builtin (tyOf o ++ ".split")) [.txt o l, .txt o [c]] Q X σ := by
  refine CallV.toks fun z₀ zs z s xs hz hR r => ?_
  have fin : ∀ (ys : List Value) k, (∀ z, RepL z ((splitS c l).map (.txt o)) ys) →
      Post C zs z (PVal Q) (.ref s.heap.objs.size) { s with heap := s.heap.push (lstO ys 0), toks := k } := by
    intro ys k ry
    obtain ⟨R', le⟩ := hR.frozen (lstO ys 0) k
    exact ⟨_, _, le, R', _, .lst put_self (ry _), h⟩
  have rq := RepL.inv r; clear r; obtain ⟨_, _, rfl, r, t⟩ := rq
  have tq := RepL.inv t; clear t; obtain ⟨_, _, rfl, r2, t⟩ := tq
  cases t.inv0; clear t
  have rq := r.txt_; clear r; rcases rq with ⟨rfl, t, rfl⟩ | ⟨rfl, t, rfl, hl⟩
  · have r2q := r2.e; clear r2; obtain ⟨u, rfl⟩ := r2q
    exact call_str_split hn fin
  · have r2q := r2.e; clear r2; obtain ⟨u, rfl, hc⟩ := r2q
    exact call_bytes_split hl (hc c (by simp)) hn fin

/-- the last thing goes -/
theorem RepL.take_ {z : Z} {vs : List V} {xs : List Value} (n : Nat) (h : RepL z vs xs) : RepL z (vs.take n) (xs.take n) := by
  refine h.ind (P := fun vs xs => ∀ n : Nat, RepL z (vs.take n) (xs.take n)) (fun n => ?_) (fun a t ih n => ?_) n
  · rw [List.take_nil, List.take_nil]; exact .nil
  · cases n with
    | zero => exact .nil
    | succ n => exact .cons a (ih n)
theorem RepL.dropLast {z : Z} {vs : List V} {xs : List Value} (h : RepL z vs xs) : RepL z vs.dropLast xs.dropLast := by
  rw [List.dropLast_eq_take, List.dropLast_eq_take, h.length]
  exact h.take_ _
theorem call_append {a : Addr} {vs : List V} {v : V} {H' : Led} (hu : Upd a (.list vs) (.list (vs ++ [v])) σ.H H') (hn : vs.length ≤ 16777216) (h : Q .none ⟨σ.loc, H'⟩) : CallV C (.builtin "list.append") [.ref a, v] Q X σ := by
  refine CallV.toks fun z₀ zs z s xs hz hR r => ?_
  have rq := RepL.inv r; clear r; obtain ⟨_, _, rfl, r, t⟩ := rq
  have tq := RepL.inv t; clear t; obtain ⟨_, _, rfl, r2, t⟩ := tq
  cases t.inv0; clear t; have rq := r.e; clear r; obtain ⟨_, rfl⟩ := rq
  obtain ⟨⟨items, n, e, rl⟩, _⟩ := hR.rh.hH _ hu.mem
  refine wpAny_list_append_plain (items := items.toArray) ⟨n, e⟩ (fun h' hp hs => ?_) (by rw [List.size_toArray, rl.length]; exact size_ok hn)
  obtain ⟨k, hk⟩ := hp
  exact ⟨z, _, Z.le_refl _, hR.upd hu (t := s.toks) hs ⟨items ++ [_], k, by rw [hk]; simp [lstO], rl.append (.cons r2 .nil)⟩, _, .none, h⟩
theorem call_pop {a : Addr} {vs : List V} {v : V} {H' : Led} (hu : Upd a (.list vs) (.list vs.dropLast) σ.H H') (hn : vs.length ≤ 16777216) (hv : vs[vs.length - 1]? = some v) (h : Q v ⟨σ.loc, H'⟩) : CallV C (.builtin "list.pop") [.ref a] Q X σ := by
  refine CallV.toks fun z₀ zs z s xs hz hR r => ?_
  have rq := RepL.inv r; clear r; obtain ⟨_, _, rfl, r, t⟩ := rq
  cases t.inv0; clear t; have rq := r.e; clear r; obtain ⟨_, rfl⟩ := rq
  obtain ⟨⟨items, n, e, rl⟩, _⟩ := hR.rh.hH _ hu.mem
  obtain ⟨x, hx, rx⟩ := rl.get hv
  have hx' : items.toArray[items.toArray.size - 1]? = some x := by rw [List.size_toArray, rl.length]; simpa using hx
  have hpos : items.length ≠ 0 := by
    rw [rl.length]; intro e0; rw [e0] at hv
    have := List.length_eq_zero_iff.mp e0
    subst this; cases hv
  have ee : items.toArray.eraseIdxIfInBounds (items.toArray.size - 1) = items.dropLast.toArray := by
    have : ∀ l : List Value, l.eraseIdx (l.length - 1) = l.dropLast := by
      intro l
      induction l with
      | nil => rfl
      | cons a r ih => cases r with
        | nil => rfl
        | cons b r => simpa using ih
    rw [List.size_toArray, ← this]
    unfold Array.eraseIdxIfInBounds
    rw [dif_pos (by simp; (clear this hx' rx hx x rl e n hR hz s z₀ h hv hn hu H' v; (first | lia | omega)))]
    simp
  obtain ⟨n', e2⟩ : ∃ n', Obj.mapSeq (fun xs => xs.eraseIdxIfInBounds (items.toArray.size - 1)) (lstO items n) = lstO items.dropLast n' := by
    refine ⟨if (items.toArray.eraseIdxIfInBounds (items.toArray.size - 1)).size = items.toArray.size then n else n + 1, ?_⟩
    simp only [Obj.mapSeq, lstO, ee, beq_iff_eq]
  refine call_meets PySem.F.slot_list_pop ⟨_, e, rfl⟩ PySem.F.entry_list_pop (PySem.F.args_list_pop_1 _) (PySem.MeetsSeq.list_pop_last a items.toArray n x hx' (by rw [List.size_toArray, rl.length]; exact size_ok hn)) ⟨e, ?_⟩
  refine ⟨z, _, Z.le_refl _, hR.upd hu (t := s.toks) (Heap.SameBut.update ..) ⟨items.dropLast, n', ?_, rl.dropLast⟩, _, rx, h⟩
  rw [Heap.get?_update_self _ e (by rw [e2]; rfl), e2]

/-! methods of a list -/
theorem TE.appendM {e : Expr} {args : List Expr} {apos pos : Pos} (h : TE C e (fun ov σ1 => ∃ a vs, ov = .ref a ∧ (a, AO.list vs) ∈ σ1.H ∧ TArgs C args (fun us σ2 => ∃ v vs' H', us = [v] ∧ Upd a (.list vs') (.list (vs' ++ [v])) σ2.H H' ∧ vs'.length ≤ 16777216 ∧ Q .none ⟨σ2.loc, H'⟩) X σ1) X σ)
    (hp : (backTo pos (starEach args C.env)).any (·.1) = false := by rfl) (hb : attributeBase e "append" C.env (eval e C.env) = eval e C.env := by rfl)
    (hf : methodCallForm (args.length + 0) (backTo pos (starEach args C.env)) [] = true := by rfl) (hl : (apos.endLine == pos.line) = true := by rfl) : TE C (.Call (.Attribute e "append" apos) args [] pos) Q X σ := by
  refine TE.meth (id := "list.append") (h.mono ?_) hp hb hf hl
  rintro ov σ1 ⟨a, vs, rfl, hm, h⟩
  refine ⟨Meth.list (.mt hm) PySem.F.slot_list_append PySem.F.type_list_append, fun p z₀ => (h p z₀).mono ?_⟩
  rintro z xs σ2 _ ⟨us, r, v, vs', H', rfl, hu, hn, q⟩
  exact ⟨_, r, call_append hu hn q⟩
theorem TE.popM {e : Expr} {apos pos : Pos} (h : TE C e (fun ov σ1 => ∃ a vs v H', ov = .ref a ∧ Upd a (.list vs) (.list vs.dropLast) σ1.H H' ∧ vs.length ≤ 16777216 ∧ vs[vs.length - 1]? = some v ∧ Q v ⟨σ1.loc, H'⟩) X σ)
    (hb : attributeBase e "pop" C.env (eval e C.env) = eval e C.env := by rfl) (hl : (apos.endLine == pos.line) = true := by rfl) : TE C (.Call (.Attribute e "pop" apos) [] [] pos) Q X σ := by
  refine TE.meth (id := "list.pop") (h.mono ?_) rfl hb rfl hl
  rintro ov σ1 ⟨a, vs, v, H', rfl, hu, hn, hv, q⟩
  exact ⟨Meth.list (.mt hu.mem) PySem.F.slot_list_pop PySem.F.type_list_pop, TArgs.nil (call_pop hu hn hv q)⟩
theorem TE.split (o : Bool) {e : Expr} {args : List Expr} {apos pos : Pos} (h : TE C e (fun ov σ1 => ∃ l, ov = .txt o l ∧ TArgs C args (fun vs σ2 => ∃ c, vs = [.txt o [c]] ∧ l.length ≤ 10000000 ∧ Q (.lst ((splitS c l).map (.txt o))) σ2) X σ1) X σ)
    (hp : (backTo pos (starEach args C.env)).any (·.1) = false := by rfl) (hb : attributeBase e "split" C.env (eval e C.env) = eval e C.env := by rfl)
    (hf : methodCallForm (args.length + 0) (backTo pos (starEach args C.env)) [] = true := by rfl) (hl : (apos.endLine == pos.line) = true := by rfl) : TE C (.Call (.Attribute e "split" apos) args [] pos) Q X σ := by
  refine TE.meth (id := tyOf o ++ ".split") (h.mono ?_) hp hb hf hl
  rintro ov σ1 ⟨l, rfl, h⟩
  refine ⟨Meth.split, fun p z₀ => (h p z₀).mono ?_⟩
  rintro z xs σ2 _ ⟨vs, r, c, rfl, hn, q⟩
  exact ⟨_, r, call_split hn q⟩

/-! unpacking -/
noncomputable def TIn (C : Cx) (ts : List Expr) (vs : List V) (Q : St → Prop) (X : XP) (σ : St) : Prop := ∀ z₀ xs, RepL z₀ vs xs → TT C z₀ (assignInOrder ((assignEach ts C.env).map (·.2)) xs) (fun _ _ σ' => Q σ') X σ
theorem TIn.nil {Q : St → Prop} (h : Q σ) : TIn C [] [] Q X σ := fun z₀ xs r => by cases r.inv0; exact TT.pure fun _ _ => h
theorem TIn.cons {t : Expr} {ts : List Expr} {v : V} {vs : List V} {Q : St → Prop} (h : TAs C t v (fun σ1 => TIn C ts vs Q X σ1) X σ)
    (he : assignEach (t :: ts) C.env = (false, assign t C.env) :: assignEach ts C.env := by rfl) : TIn C (t :: ts) (v :: vs) Q X σ := by
  intro z₀ xs r
  have rq := RepL.inv r; clear r; obtain ⟨_, _, rfl, rv, rt⟩ := rq
  rw [he]
  show TT C z₀ (do holding _ (assign t C.env _); assignInOrder ((assignEach ts C.env).map (·.2)) _) _ X σ
  refine TT.bind (TT.holding (TT.mono (h z₀ _ rv) ?_))
  rintro z ⟨⟩ σ1 l h1
  exact h1 z _ (rt.mono l)
theorem TAs.tuple {ts : List Expr} {k : Nat} {p : Pos} {vs : List V} {Q : St → Prop} (hh : C.A.handled = none) (hn : ts.length = vs.length) (h : TIn C ts vs Q X σ)
    (he : (assignEach ts C.env).length = ts.length := by rfl) (hstar : (assignEach ts C.env).findIdx? (·.1) = none := by rfl) : TAs C (.Tuple ts k p) (.tup vs) Q X σ := by
  intro z₀ x r zs z s hz hR
  obtain ⟨a, items, n, rfl, e, rl⟩ := rep_tupO (r.mono hz) hR
  refine wpAny_assign_Tuple hh (isTuple_of e) (by rw [he, hn, List.size_toArray, rl.length]) hstar fun h' hx => ?_
  have R' : R C zs σ z { s with heap := h' } := hR.grow (t := s.toks) fun b o eb => hx b o (Nat.ne_of_lt (Heap.lt_size eb)) eb
  exact h z _ rl zs z _ (Z.le_refl _) R'
theorem TS.assignTo {t e : Expr} {p : Pos} {Q : Fl → St → Prop} (h : TE C e (fun v σ1 => TAs C t v (fun σ2 => Q .next σ2) X σ1) X σ)
    (he : (assignEach [t] C.env).map (·.2) = [PySem.assign t C.env] := by rfl) (hs : swapsWithSole [t] e p.line C.env = Pure.pure false := by rfl) (hw : swappedStores [t] e C.env = Pure.pure none := by rfl) : TS C (.Assign [t] e p) Q X σ := by
  intro z₀ zs z s hz hR
  refine wpAny_Assign_stores ?_ hs hw
  refine wpAny_mono (h z₀ zs z s hz hR) ?_ fun _ _ x => x
  rintro v s1 ⟨z1, σ1, l1, R1, u, ru, h1⟩
  rw [he]
  refine wpAny_mono (h1 z1 v ru zs z1 s1 (Z.le_refl _) R1) ?_ fun _ _ x => PX.le l1 x
  rintro ⟨⟩ s2 ⟨z2, σ2, l2, R2, q⟩
  exact ⟨z2, σ2, Z.le_trans l1 l2, R2, .next, .next, q⟩
end
end PL

end
section
open PySem PySem.Calls PyProof.Rows
set_option Elab.async false
set_option linter.unusedVariables false
set_option linter.unusedSimpArgs false
set_option maxRecDepth 100000
namespace PL
theorem sl_toL {α : Type} (l : List α) (j : Int) (n : Nat) (h : j = (n : Int)) : sl l none (some j) = l.take n := by rw [h, sl_to]
theorem sl_fromL {α : Type} (l : List α) (j : Int) (n : Nat) (h : j = (n : Int)) : sl l (some j) none = l.drop n := by rw [h, sl_from]
theorem sl_12 {α : Type} (l : List α) (i j : Int) (n : Nat) (h : i = (n : Int)) (h2 : j = ((n + 1 : Nat) : Int)) : sl l (some i) (some j) = (l.drop n).take 1 := by
  subst h; subst h2
  simp only [sl, Option.elim_some, clip_nat]
  by_cases hn : n < l.length
  · rw [Nat.min_eq_left (show n ≤ l.length by (first | lia | omega)), Nat.min_eq_left (show n + 1 ≤ l.length by (first | lia | omega)), Nat.add_sub_cancel_left]
  · rw [Nat.min_eq_right (show l.length ≤ n by (first | lia | omega)), List.drop_eq_nil_of_le (Nat.le_refl _), List.drop_eq_nil_of_le (by (first | lia | omega))]; simp
noncomputable def dirS (w : List Nat) : List Nat := if w.take (cut 47 w) ≠ [] ∧ w.take (cut 47 w) ≠ List.replicate (w.take (cut 47 w)).length 47 then rstripS 47 (w.take (cut 47 w)) else w.take (cut 47 w)
noncomputable def baseS (w : List Nat) : List Nat := w.drop (cut 47 w)
section
variable {C : Cx} {X : XP} {σ : St}
theorem TS.cut {st : Stmt} {P Q : Fl → St → Prop} (h : TS C st P X σ) (k : ∀ f σ', P f σ' → Q f σ') : TS C st Q X σ := fun z₀ => (h z₀).mono fun z f σ' _ ⟨fl, r, q⟩ => ⟨fl, r, k _ _ q⟩
theorem TB.cut {e : Expr} {P Q : Bool → St → Prop} (h : TB C e P X σ) (k : ∀ f σ', P f σ' → Q f σ') : TB C e Q X σ := h.mono k
end
/-! what the path functions answer -/
/-- how many slashes make the root -/
noncomputable def rootN (l : List Nat) : Nat := if l.take 1 = [47] then (if (l.drop 1).take 1 = [47] ∧ (l.drop 2).take 1 ≠ [47] then 2 else 1) else 0
theorem rootN_le (l : List Nat) : rootN l ≤ 2 := by unfold rootN; (repeat' split) <;> (first | lia | omega)
theorem rootN_take (l : List Nat) : l.take (rootN l) = List.replicate (rootN l) 47 := by
  unfold rootN
  by_cases h1 : l.take 1 = [47]
  · rw [if_pos h1]
    by_cases h2 : (l.drop 1).take 1 = [47] ∧ (l.drop 2).take 1 ≠ [47]
    · rw [if_pos h2]
      match l, h1, h2 with
      | [], h1, _ => simp at h1
      | [a], _, h2 => simp at h2
      | a :: b :: r, h1, h2 => simp at h1 h2; simp [h1, h2.1, List.replicate]
    · rw [if_neg h2, h1]; rfl
  · rw [if_neg h1]; simp
/-- what is left when the empty, dot and double dot pieces are worked off -/
noncomputable def stepN (r : Nat) (acc : List (List Nat)) (c : List Nat) : List (List Nat) :=
  if c = [] ∨ c = [46] then acc
  else if c ≠ [46, 46] ∨ (r = 0 ∧ acc = []) ∨ (acc ≠ [] ∧ acc[acc.length - 1]? = some [46, 46]) then acc ++ [c]
  else acc.dropLast
noncomputable def normC (r : Nat) (cs : List (List Nat)) : List (List Nat) := cs.foldl (stepN r) []
noncomputable def normS (l : List Nat) : List Nat :=
  if l = [] then [46] else
    let path := List.replicate (rootN l) 47 ++ joinS [47] (normC (rootN l) (splitS 47 (l.drop (rootN l))))
    if path = [] then [46] else path
theorem stepN_length (r : Nat) (acc : List (List Nat)) (c : List Nat) : (stepN r acc c).length ≤ acc.length + 1 := by
  unfold stepN
  (repeat' split) <;> simp <;> (first | lia | omega)
noncomputable def sumL (ps : List (List Nat)) : Nat := (ps.map List.length).sum
theorem sumL_append (a b : List (List Nat)) : sumL (a ++ b) = sumL a + sumL b := by simp [sumL]
theorem sumL_dropLast (a : List (List Nat)) : sumL a.dropLast ≤ sumL a := by
  induction a with
  | nil => simp [sumL]
  | cons x r ih =>
    cases r with
    | nil => simp [sumL]
    | cons y r => simp only [List.dropLast_cons_of_ne_nil (List.cons_ne_nil y r)]; simp [sumL] at ih ⊢; (clear x; (first | lia | omega))
theorem stepN_sum (r : Nat) (acc : List (List Nat)) (c : List Nat) : sumL (stepN r acc c) ≤ sumL acc + c.length := by
  unfold stepN
  split
  · (clear r; (first | lia | omega))
  · split
    · rw [sumL_append]; simp [sumL]
    · have := sumL_dropLast acc; (first | lia | omega)
theorem fold_bounds (r : Nat) : ∀ (cs acc : List (List Nat)), (cs.foldl (stepN r) acc).length ≤ acc.length + cs.length ∧ sumL (cs.foldl (stepN r) acc) ≤ sumL acc + sumL cs
  | [], acc => ⟨Nat.le_refl _, Nat.le_add_right _ _⟩
  | c :: cs, acc => by
    obtain ⟨h1, h2⟩ := fold_bounds r cs (stepN r acc c)
    have h3 := stepN_length r acc c
    have h4 := stepN_sum r acc c
    refine ⟨by rw [List.foldl_cons, List.length_cons]; (clear h4 h2; (first | lia | omega)), ?_⟩
    rw [List.foldl_cons]
    have : sumL (c :: cs) = c.length + sumL cs := by simp [sumL]
    (clear h3 h1; (first | lia | omega))
theorem splitS_sum (c : Nat) : ∀ l : List Nat, sumL (splitS c l) ≤ l.length
  | [] => by simp [splitS, sumL]
  | x :: r => by
    have ih := splitS_sum c r
    unfold splitS
    by_cases h : x = c
    · rw [if_pos h]; simp [sumL] at ih ⊢; (clear h x; (first | lia | omega))
    · rw [if_neg h]
      cases hs : splitS c r with
      | nil => simp [sumL]
      | cons p ps => rw [hs] at ih; simp [sumL] at ih ⊢; (clear hs h x c; (first | lia | omega))
theorem normC_take {r : Nat} {cs : List (List Nat)} {i : Nat} {c : List Nat} (h : cs[i]? = some c) : normC r (cs.take (i + 1)) = stepN r (normC r (cs.take i)) c := by
  unfold normC
  rw [List.take_add_one, h, List.foldl_append]; rfl
end PL

end
section
open PySem PySem.Calls PyProof.Rows
set_option Elab.async false
set_option linter.unusedVariables false
set_option linter.unusedSimpArgs false
set_option maxRecDepth 100000
namespace PL
section
variable {C : Cx} {X : XP} {σ : St} {Q : V → St → Prop}
/-- two lists, one behind the other: a new one, frozen -/
theorem Bin.add_list {v w : V} {vs ws : List V} (k : IsL σ v vs) (k2 : IsL σ w ws) (hn : vs.length + ws.length ≤ 16777216) (h : Q (.lst (vs ++ ws)) σ) : Bin C .Add v w Q X σ := by
  intro z₀ x y rx ry zs z s hz hR
  obtain ⟨a, items, n, rfl, p, q⟩ := k.obj rx hz hR
  obtain ⟨b, items2, n2, rfl, p2, q2⟩ := k2.obj ry hz hR
  refine PySem.P.add_list (n := n) (n2 := n2) p p2 ?_ (by rw [List.size_toArray, List.size_toArray, q.length, q2.length]; exact size_ok hn)
  rw [List.append_toArray]
  obtain ⟨R', le⟩ := hR.frozen (lstO (items ++ items2) 0) s.toks
  exact ⟨_, _, le, R', _, .lst put_self ((q.append q2).mono le), h⟩

end
end PL

end
section
open PySem PySem.Calls PyProof.Rows
set_option Elab.async false
set_option linter.unusedVariables false
set_option linter.unusedSimpArgs false
namespace PL
/-! plain laws of normpath -/
noncomputable def outS (r : Nat) (cs : List (List Nat)) : List Nat := if List.replicate r 47 ++ joinS [47] cs = [] then [46] else List.replicate r 47 ++ joinS [47] cs
theorem splitS_slash (c : Nat) (l : List Nat) : splitS c (c :: l) = [] :: splitS c l := by
  show (if c = c then _ else _) = _
  rw [if_pos rfl]
theorem splitS_rep (c : Nat) (l : List Nat) : ∀ s : Nat, splitS c (List.replicate s c ++ l) = List.replicate s [] ++ splitS c l
  | 0 => rfl
  | s + 1 => by rw [List.replicate_succ, List.cons_append, splitS_slash, splitS_rep c l s, List.replicate_succ, List.cons_append]
theorem step_nil (r : Nat) (acc : List (List Nat)) : stepN r acc [] = acc := by unfold stepN; rw [if_pos (.inl rfl)]
theorem step_dot (r : Nat) (acc : List (List Nat)) : stepN r acc [46] = acc := by unfold stepN; rw [if_pos (.inr rfl)]
theorem normC_rep (r : Nat) (ps : List (List Nat)) : ∀ k : Nat, normC r (List.replicate k [] ++ ps) = normC r ps
  | 0 => rfl
  | k + 1 => by
    have ih := normC_rep r ps k
    unfold normC at ih ⊢
    rw [List.replicate_succ, List.cons_append, List.foldl_cons, step_nil, ih]
theorem normS_eq (l : List Nat) : normS l = outS (rootN l) (normC (rootN l) (splitS 47 l)) := by
  have hs : splitS 47 l = List.replicate (rootN l) [] ++ splitS 47 (l.drop (rootN l)) := by
    conv => lhs; rw [← List.take_append_drop (rootN l) l, rootN_take]
    rw [splitS_rep]
  rw [hs, normC_rep]
  unfold normS
  by_cases h : l = []
  · subst h; rfl
  · rw [if_neg h]; rfl
noncomputable def leadN (l : List Nat) : Nat := (l.takeWhile (· == 47)).length
theorem rootN_lead (l : List Nat) : rootN l = if leadN l = 2 then 2 else if 0 < leadN l then 1 else 0 := by
  match l with
  | [] => rfl
  | [a] =>
    by_cases ha : a = 47
    · subst ha; rfl
    · simp [rootN, leadN, ha]
  | [a, b] =>
    by_cases ha : a = 47
    · subst ha
      by_cases hb : b = 47
      · subst hb; rfl
      · simp [rootN, leadN, hb]
    · simp [rootN, leadN, ha]
  | a :: b :: c :: t =>
    by_cases ha : a = 47
    · subst ha
      by_cases hb : b = 47
      · subst hb
        by_cases hc : c = 47
        · subst hc; simp [rootN, leadN]
        · simp [rootN, leadN, hc]
      · simp [rootN, leadN, hb]
    · simp [rootN, leadN, ha]
end PL

end
section
open PySem PySem.Calls PyProof.Rows
set_option Elab.async false
set_option linter.unusedVariables false
set_option linter.unusedSimpArgs false
set_option maxRecDepth 100000
namespace PL
section
variable {C : Cx} {X : XP} {σ : St}
theorem swaps_comp {elt : Expr} {gens : List Comprehension} {scope : Scope} {pos p : Pos} {x : Str} {n : Nat} {env : Env} :
    swapsWith (.ListComp elt gens scope pos) (some (.Name x p)) n env = pure (env.blockKind == .function && env.kindOf x == some .local && p.line == pos.line && !(scope.names.any fun (n, k) => n == x && (k == .local || k == .cell))) := rfl
/-- `x = [comp]` on one line, x local -/
theorem TS.assignComp {g : Gd} {n : Nat} {sc scope : Scope} {elt target iter : Expr} {ifs : List Expr} {pos p p' : Pos} {x : Str} {Q : Fl → St → Prop} (hIn : In C g n sc) (K : CompOK scope sc) (hk : sc.names.lookup x = some .local)
    (hl : (p'.line == pos.line) = true) (hn : (scope.names.any fun (n, k) => n == x && (k == .local || k == .cell)) = false)
    (h : TE C iter (CompH C g n sc scope target ifs elt fun σ1 ys H0 =>
      (Q .next ⟨setL σ1.loc x (.lst (ys)), H0⟩ ∨ ∀ a, Q .next ⟨setL σ1.loc x (.ref a), (a, .list (ys)) :: H0⟩)) X σ)
    (hs : ∀ x, foldedSetIterable iter C.env x = Pure.pure x := by intro _; rfl) : TS C (.Assign [.Name x p'] (.ListComp elt [⟨target, iter, ifs, 0⟩] scope pos) p) Q X σ := by
  intro z₀
  rw [exec_Assign_arm]
  refine TT.at_ ?_
  have e1 : swapsWithSole [Expr.Name x p'] (.ListComp elt [⟨target, iter, ifs, 0⟩] scope pos) p.line C.env = Pure.pure true := by
    have e0 : swapsWithSole [Expr.Name x p'] (.ListComp elt [⟨target, iter, ifs, 0⟩] scope pos) p.line C.env = swapsWith (.ListComp elt [⟨target, iter, ifs, 0⟩] scope pos) (some (.Name x p')) p.line C.env := by unfold swapsWithSole; rfl
    rw [e0, swaps_comp, hn, hl, (hIn.kind x).trans hk]
    have : (C.env.blockKind == ScopeKind.function) = true := by
      unfold Env.blockKind; rw [C.hk]; rfl
    rw [this]; rfl
  rw [e1]
  refine TT.bind (TT.pure fun z hz => ?_)
  refine TT.bind (m := evalThenUse _ _ _) (f := fun _ => Pure.pure Flow.next) ?_
  show TT C z (do let _ ← comprehension _ _ _ _ _ _ _ (some (PySem.assign (Expr.Name x p') C.env)); Pure.pure ()) _ X σ
  refine TT.bind (TT.mono (TT.listcompU (Q := fun σ' => Q .next σ') hIn K (h.mono ?_) hs) ?_)
  · rintro v σ1 ⟨α, xs, φ, f, L, H0, S, h1, h2, h3, h4, h5, h6, h7⟩
    exact ⟨α, xs, φ, f, L, H0, S, h1, h2, h3, h4, h5, h6, h7.imp (fun q => TAs.name (hIn.stL hk) q) fun q a => TAs.name (hIn.stL hk) (q a)⟩
  · intro z v σ' l q
    exact TT.pure fun z' _ => TT.pure fun z'' _ => ⟨.next, .next, q⟩
end
end PL

end
section
open PySem PySem.Calls PyProof.Rows
set_option Elab.async false
set_option linter.unusedVariables false
set_option linter.unusedSimpArgs false
set_option maxRecDepth 100000
namespace PL
section
variable {K : Type} [DecidableEq K]
end

section
variable {C : Cx} {X : XP} {σ : St} {Q : V → St → Prop} {K : Type} [DecidableEq K] {a : Addr} {kvs : List (K × V)} {knd : KeyKind C.g.prog C.g.w K} {kv : V} {k : K}
end
end PL

end
section
open PySem PySem.Calls PyProof.Rows
set_option Elab.async false
set_option linter.unusedVariables false
set_option linter.unusedSimpArgs false
set_option linter.unusedSectionVars false
set_option maxRecDepth 100000
namespace PL
/-! a live list is frozen -/
section
variable {C : Cx} {X : XP} {σ : St} {Q : V → St → Prop} {zs z : Z} {s : Shared}
/-! lists: a new live one -/
end
end PL

end
section
open PySem PySem.Calls PyProof.Rows
set_option Elab.async false
set_option linter.unusedVariables false
set_option linter.unusedSimpArgs false
set_option linter.unusedSectionVars false
set_option maxRecDepth 100000
namespace PL
section
variable {C : Cx} {X : XP} {σ : St} {Q : V → St → Prop} {zs z : Z} {s : Shared}
/-! `list(range(a, b))` -/
/-! `x in list` -/
/-! `l += m` -/
end
end PL

end
section
open PySem PySem.Calls PyProof.Rows
set_option Elab.async false
set_option linter.unusedVariables false
set_option linter.unusedSimpArgs false
set_option linter.unusedSectionVars false
set_option maxRecDepth 100000
namespace PL
section
variable {C : Cx} {X : XP} {σ : St} {Q : V → St → Prop} {zs z : Z} {s : Shared}
/-! places from the end -/
/-! `d.get(k, other)` -/
/-! `str(n)` -/
end
end PL

end
section
open PySem PySem.Calls PyProof.Rows
set_option Elab.async false
set_option linter.unusedVariables false
set_option linter.unusedSimpArgs false
set_option linter.unusedSectionVars false
set_option maxRecDepth 100000
namespace PL
/-! a number's signs -/
/-! a text read sign by sign -/
end PL

end
section
open PySem PySem.Calls PyProof.Rows
set_option Elab.async false
set_option linter.unusedVariables false
set_option linter.unusedSimpArgs false
set_option linter.unusedSectionVars false
set_option maxRecDepth 100000
namespace PL
/-! normal forms -/
theorem splitS_free (c : Nat) : ∀ {l p : List Nat}, p ∈ splitS c l → c ∉ p
  | [], p, h => by simp [splitS] at h; subst h; simp
  | x :: r, p, h => by
    unfold splitS at h
    split at h
    · rcases List.mem_cons.mp h with e | h
      · subst e; simp
      · exact splitS_free c h
    · rename_i hx
      have ih := fun q (hq : q ∈ splitS c r) => splitS_free c (l := r) (p := q) hq
      cases e : splitS c r with
      | nil => exact absurd e (splitS_ne c r)
      | cons q qs =>
        rw [e] at h ih
        rcases List.mem_cons.mp h with e' | h
        · subst e'
          rw [List.mem_cons, not_or]
          exact ⟨Ne.symm hx, ih q List.mem_cons_self⟩
        · exact ih p (List.mem_cons_of_mem _ h)
noncomputable def nameN (p : List Nat) : Prop := p ≠ [] ∧ p ≠ [46] ∧ p ≠ [46, 46] ∧ 47 ∉ p
noncomputable abbrev dd : List Nat := [46, 46]
structure Norm (r : Nat) (cs : List (List Nat)) : Prop where
  le : r ≤ 2
  sp : ∃ k ns, cs = List.replicate k dd ++ ns ∧ (k = 0 ∨ r = 0) ∧ ∀ n ∈ ns, nameN n
theorem step_name {r : Nat} {acc : List (List Nat)} {n : List Nat} (h : nameN n) : stepN r acc n = acc ++ [n] := by
  unfold stepN
  rw [if_neg (not_or.mpr ⟨h.1, h.2.1⟩), if_pos (.inl h.2.2.1)]
theorem step_dd0 {k : Nat} : stepN 0 (List.replicate k dd) dd = List.replicate (k + 1) dd := by
  unfold stepN
  rw [if_neg (by decide), if_pos, List.replicate_succ']
  cases k with
  | zero => exact .inr (.inl ⟨rfl, rfl⟩)
  | succ k => exact .inr (.inr ⟨by simp, by rw [List.length_replicate, List.getElem?_replicate, if_pos (by (first | lia | omega))]⟩)
theorem fold_names {r : Nat} : ∀ (ns acc : List (List Nat)), (∀ n ∈ ns, nameN n) → ns.foldl (stepN r) acc = acc ++ ns
  | [], acc, _ => by simp
  | n :: ns, acc, h => by
    rw [List.foldl_cons, step_name (h n List.mem_cons_self), fold_names ns _ fun m hm => h m (List.mem_cons_of_mem _ hm)]; simp
theorem fold_dds : ∀ (k j : Nat), (List.replicate k dd).foldl (stepN 0) (List.replicate j dd) = List.replicate (j + k) dd
  | 0, j => rfl
  | k + 1, j => by
    rw [List.replicate_succ, List.foldl_cons, step_dd0, fold_dds k (j + 1)]
    congr 1; (first | lia | omega)
theorem norm_fix {r : Nat} {cs : List (List Nat)} (h : Norm r cs) : normC r cs = cs := by
  obtain ⟨hr, k, ns, rfl, hk, hns⟩ := h
  unfold normC
  rw [List.foldl_append]
  rcases hk with rfl | rfl
  · exact fold_names ns [] hns
  · have := fold_dds k 0
    rw [List.replicate_zero, Nat.zero_add] at this
    rw [this, fold_names ns _ hns]
end PL

end
section
open PySem PySem.Calls PyProof.Rows
set_option Elab.async false
set_option linter.unusedVariables false
set_option linter.unusedSimpArgs false
set_option linter.unusedSectionVars false
set_option maxRecDepth 100000
namespace PL
section
variable {K : Type} [DecidableEq K]
end
theorem step_up {r : Nat} {cs : List (List Nat)} {p : List Nat} (h : nameN p) : stepN r (cs ++ [p]) dd = cs := by
  unfold stepN
  rw [if_neg (by decide), if_neg, List.dropLast_concat]
  rintro (q | ⟨_, q⟩ | ⟨_, q⟩)
  · exact q rfl
  · simp at q
  · rw [List.length_append, List.length_singleton, Nat.add_sub_cancel, List.getElem?_concat_length] at q
    exact h.2.2.1 (Option.some.inj q)
end PL

end
section
open PySem PySem.Calls PyProof.Rows
set_option Elab.async false
set_option linter.unusedVariables false
set_option linter.unusedSimpArgs false
set_option linter.unusedSectionVars false
set_option maxRecDepth 100000
namespace PL
/-! displays of written numbers -/
section
variable {C : Cx} {X : XP} {σ : St}
end
end PL

end
section
open PySem PySem.Calls PyProof.Rows
set_option Elab.async false
set_option linter.unusedVariables false
set_option linter.unusedSimpArgs false
set_option linter.unusedSectionVars false
set_option maxRecDepth 100000
namespace PL
section
open Builtin
theorem isInst_tuple {b : Array UInt8} {t : Tok} : isInstance (.bytes b t) (.type "tuple") = pure false := by
  have e : isInstance (.bytes b t) (.type "tuple") = isSubtype (.type "bytes") (.type "tuple") := rfl
  rw [e, isSubtype_type]; kernel_rfl
theorem bytes_startswith {l : List Nat} {c : Nat} (hl : ∀ x ∈ l, x < 256) (hc : c < 256) {t u : Tok} : Gives («bytes.startswith» ⟨[.bytes (l.map UInt8.ofNat).toArray t, .bytes #[UInt8.ofNat c] u], []⟩) (.val (.bool (headIs c l))) := by
  refine .of_wp fun M A E s Q hq => ?_
  show wpAny M A (isInstance (.bytes #[UInt8.ofNat c] u) (.type "tuple") >>= fun r => _) _ E s
  refine wpAny_bind (wpAny_of_eq isInst_tuple ?_)
  show wpAny M A (Bytes.buffer? "bytes.startswith" (.bytes #[UInt8.ofNat c] u) >>= fun r => _) _ E s
  refine wpAny_bind (wpAny_of_eq PySem.W.KBy.buffer_eq ?_)
  refine wpAny_pure ⟨_, rfl, ?_⟩
  have e : (if (min ((l.map UInt8.ofNat).toArray.size : Int) (if ((l.map UInt8.ofNat).toArray.size : Int) < 0 then max 0 ((l.map UInt8.ofNat).toArray.size + (l.map UInt8.ofNat).toArray.size : Int) else (l.map UInt8.ofNat).toArray.size)) - 0 < (#[UInt8.ofNat c] : Array UInt8).size then false
      else (l.map UInt8.ofNat).toArray.extract 0 (0 + (#[UInt8.ofNat c] : Array UInt8).size) == #[UInt8.ofNat c]) = headIs c l := by
    have hn : ¬ (((l.map UInt8.ofNat).toArray.size : Int) < 0) := by (clear hq Q s E A M u t hc hl c; (first | lia | omega))
    rw [if_neg hn, Int.min_self]
    cases l with
    | nil => rfl
    | cons x r =>
      rw [if_neg (by simp; (clear hn hq hl Q s E A M u t hc x c; (first | lia | omega))), Bool.eq_iff_iff]
      unfold headIs
      rw [extract_one]
      simp only [List.map_cons, List.getElem?_cons_zero, Option.some.injEq, List.head?_cons, beq_iff_eq]
      constructor
      · intro h; exact ofNat_inj (hl x List.mem_cons_self) hc h
      · intro h; rw [h]
  have hq : Q (.bool _) s := hq
  rw [← e] at hq
  exact hq
theorem bytes_endswith {l : List Nat} {c : Nat} (hl : ∀ x ∈ l, x < 256) (hc : c < 256) {t u : Tok} : Gives («bytes.endswith» ⟨[.bytes (l.map UInt8.ofNat).toArray t, .bytes #[UInt8.ofNat c] u], []⟩) (.val (.bool (lastIs c l))) := by
  refine .of_wp fun M A E s Q hq => ?_
  show wpAny M A (isInstance (.bytes #[UInt8.ofNat c] u) (.type "tuple") >>= fun r => _) _ E s
  refine wpAny_bind (wpAny_of_eq isInst_tuple ?_)
  show wpAny M A (Bytes.buffer? "bytes.endswith" (.bytes #[UInt8.ofNat c] u) >>= fun r => _) _ E s
  refine wpAny_bind (wpAny_of_eq PySem.W.KBy.buffer_eq ?_)
  refine wpAny_pure ⟨_, rfl, ?_⟩
  have e : (if (min ((l.map UInt8.ofNat).toArray.size : Int) (if ((l.map UInt8.ofNat).toArray.size : Int) < 0 then max 0 ((l.map UInt8.ofNat).toArray.size + (l.map UInt8.ofNat).toArray.size : Int) else (l.map UInt8.ofNat).toArray.size)) - 0 < (#[UInt8.ofNat c] : Array UInt8).size then false
      else (l.map UInt8.ofNat).toArray.extract ((min ((l.map UInt8.ofNat).toArray.size : Int) (if ((l.map UInt8.ofNat).toArray.size : Int) < 0 then max 0 ((l.map UInt8.ofNat).toArray.size + (l.map UInt8.ofNat).toArray.size : Int) else (l.map UInt8.ofNat).toArray.size)).toNat - (#[UInt8.ofNat c] : Array UInt8).size)
        (min ((l.map UInt8.ofNat).toArray.size : Int) (if ((l.map UInt8.ofNat).toArray.size : Int) < 0 then max 0 ((l.map UInt8.ofNat).toArray.size + (l.map UInt8.ofNat).toArray.size : Int) else (l.map UInt8.ofNat).toArray.size)).toNat == #[UInt8.ofNat c]) = lastIs c l := by
    have hn : ¬ (((l.map UInt8.ofNat).toArray.size : Int) < 0) := by (clear hq Q s E A M u t hc hl c; (first | lia | omega))
    rw [if_neg hn, Int.min_self]
    rcases List.eq_nil_or_concat l with h0 | ⟨r, x, h0⟩
    · subst h0; rfl
    · rw [List.concat_eq_append] at h0
      subst h0
      have hs : ((r ++ [x]).map UInt8.ofNat).toArray.size = r.length + 1 := by simp
      rw [if_neg (by simp; (clear hs hn hq hl Q s E A M u t hc x c; (first | lia | omega))), Bool.eq_iff_iff]
      unfold lastIs
      have e2 : ((((r ++ [x]).map UInt8.ofNat).toArray.size : Int)).toNat = (r.length + 1 - (#[UInt8.ofNat c] : Array UInt8).size) + (#[UInt8.ofNat c] : Array UInt8).size := by rw [hs]; simp
      have e3 : ((((r ++ [x]).map UInt8.ofNat).toArray.size : Int)).toNat - (#[UInt8.ofNat c] : Array UInt8).size = r.length + 1 - (#[UInt8.ofNat c] : Array UInt8).size := by rw [hs]; simp
      rw [e3, e2, extract_one]
      simp only [List.size_toArray, List.length_singleton, Nat.add_sub_cancel]
      rw [List.map_append, List.getElem?_append_right (by simp), List.length_map, Nat.sub_self]
      simp only [List.map_cons, List.map_nil, List.getElem?_cons_zero, Option.some.injEq, List.getLast?_append, List.getLast?_singleton, Option.some_or, beq_iff_eq]
      constructor
      · intro h; exact ofNat_inj (hl x (by simp)) hc h
      · intro h; rw [h]
  have hq : Q (.bool _) s := hq
  rw [← e] at hq
  exact hq
end
theorem noI_bytes_add : typeLookup (.type "bytes") (dunderI "add") = pure none := by rw [typeLookup_type, builtinLookup_eq_fast]; kernel_rfl
section
variable {C : Cx} {X : XP} {σ : St} {Q : V → St → Prop} {o : Bool} {l m : List Nat} {c : Nat}
theorem call_startswith (h : Q (.bool (headIs c l)) σ) : CallV C (.builtin (tyOf o ++ ".startswith")) [.txt o l, .txt o [c]] Q X σ := by
  cases o
  · exact call_startswith_str h
  · refine CallV.toks fun z₀ zs z s xs hz hR r => ?_
    have rq := RepL.inv r; clear r; obtain ⟨_, _, rfl, r1, r⟩ := rq
    have r1q := r1.e; clear r1; obtain ⟨t, rfl, hl⟩ := r1q
    have rq := RepL.inv r; clear r; obtain ⟨_, _, rfl, r2, r⟩ := rq
    have r2q := r2.e; clear r2; obtain ⟨u, rfl, hc⟩ := r2q
    cases r.inv0; clear r
    exact call_gives PySem.W.FB.slot_bytes_startswith (PySem.W.typeIs_bytes _ _ _) PySem.W.FB.entry_bytes_startswith (PySem.W.FB.args_bytes_startswith_2 _ _) (bytes_startswith hl (hc c List.mem_cons_self)) (PVal.same hR (.bool _) h)
theorem call_endswith (h : Q (.bool (lastIs c l)) σ) : CallV C (.builtin (tyOf o ++ ".endswith")) [.txt o l, .txt o [c]] Q X σ := by
  cases o
  · exact call_endswith_str h
  · refine CallV.toks fun z₀ zs z s xs hz hR r => ?_
    have rq := RepL.inv r; clear r; obtain ⟨_, _, rfl, r1, r⟩ := rq
    have r1q := r1.e; clear r1; obtain ⟨t, rfl, hl⟩ := r1q
    have rq := RepL.inv r; clear r; obtain ⟨_, _, rfl, r2, r⟩ := rq
    have r2q := r2.e; clear r2; obtain ⟨u, rfl, hc⟩ := r2q
    cases r.inv0; clear r
    exact call_gives PySem.W.FB.slot_bytes_endswith (PySem.W.typeIs_bytes _ _ _) PySem.W.FB.entry_bytes_endswith (PySem.W.FB.args_bytes_endswith_2 _ _) (bytes_endswith hl (hc c List.mem_cons_self)) (PVal.same hR (.bool _) h)
theorem Meth.startswith : Meth C σ (.txt o l) "startswith" (tyOf o ++ ".startswith") := by
  cases o
  · exact Meth.str PySem.F.slot_str_startswith PySem.F.type_str_startswith
  · exact Meth.bytes PySem.W.FB.slot_bytes_startswith PySem.W.FB.type_bytes_startswith
theorem Meth.endswith : Meth C σ (.txt o l) "endswith" (tyOf o ++ ".endswith") := by
  cases o
  · exact Meth.str PySem.F.slot_str_endswith PySem.F.type_str_endswith
  · exact Meth.bytes PySem.W.FB.slot_bytes_endswith PySem.W.FB.type_bytes_endswith
theorem TE.startswith (o : Bool) {e : Expr} {args : List Expr} {apos pos : Pos} (h : TE C e (fun ov σ1 => ∃ l, ov = .txt o l ∧ TArgs C args (fun vs σ2 => ∃ c, vs = [.txt o [c]] ∧ Q (.bool (headIs c l)) σ2) X σ1) X σ)
    (hp : (backTo pos (starEach args C.env)).any (·.1) = false := by rfl) (hb : attributeBase e "startswith" C.env (eval e C.env) = eval e C.env := by rfl)
    (hf : methodCallForm (args.length + 0) (backTo pos (starEach args C.env)) [] = true := by rfl) (hl : (apos.endLine == pos.line) = true := by rfl) : TE C (.Call (.Attribute e "startswith" apos) args [] pos) Q X σ := by
  refine TE.meth (id := tyOf o ++ ".startswith") (h.mono ?_) hp hb hf hl
  rintro ov σ1 ⟨l, rfl, h⟩
  refine ⟨Meth.startswith, fun p z₀ => (h p z₀).mono ?_⟩
  rintro z xs σ2 _ ⟨vs, r, c, rfl, q⟩
  exact ⟨_, r, call_startswith q⟩
theorem TE.endswith (o : Bool) {e : Expr} {args : List Expr} {apos pos : Pos} (h : TE C e (fun ov σ1 => ∃ l, ov = .txt o l ∧ TArgs C args (fun vs σ2 => ∃ c, vs = [.txt o [c]] ∧ Q (.bool (lastIs c l)) σ2) X σ1) X σ)
    (hp : (backTo pos (starEach args C.env)).any (·.1) = false := by rfl) (hb : attributeBase e "endswith" C.env (eval e C.env) = eval e C.env := by rfl)
    (hf : methodCallForm (args.length + 0) (backTo pos (starEach args C.env)) [] = true := by rfl) (hl : (apos.endLine == pos.line) = true := by rfl) : TE C (.Call (.Attribute e "endswith" apos) args [] pos) Q X σ := by
  refine TE.meth (id := tyOf o ++ ".endswith") (h.mono ?_) hp hb hf hl
  rintro ov σ1 ⟨l, rfl, h⟩
  refine ⟨Meth.endswith, fun p z₀ => (h p z₀).mono ?_⟩
  rintro z xs σ2 _ ⟨vs, r, c, rfl, q⟩
  exact ⟨_, r, call_endswith q⟩
theorem Inp.add_txt (hn : l.length + m.length ≤ 16777216) (h : Q (.txt o (l ++ m)) σ) : Inp C .Add (.txt o l) (.txt o m) Q X σ := by
  cases o
  · exact Inp.add_str hn h
  · intro z₀ x y rx ry zs z s hz hR
    have rxq := rx.e; clear rx; obtain ⟨t, rfl, hl⟩ := rxq
    have ryq := ry.e; clear ry; obtain ⟨u, rfl, hm⟩ := ryq
    refine wpAny_inplaceOp_concat (PySem.W.typeIs_bytes _ _ _) (PySem.W.typeIs_bytes _ _ _) noI_bytes_add PySem.W.KBy.noFill_bytes_add PySem.W.KBy.seq_bytes_add ?_
    refine call_gives PySem.W.FB.slot_bytes_add (PySem.W.typeIs_bytes _ _ _) PySem.W.FB.entry_bytes_add (PySem.W.FB.args_bytes_add_2 _ _) (PySem.W.KBy.gives_bytes_add (PySem.W.KBy.tooLong_not (by simpa using hn))) ?_
    have fin : ∀ t' k, Post C zs z (PVal Q) (.bytes ((l ++ m).map UInt8.ofNat).toArray t') { s with toks := k } := fun t' k => PVal.toks hR (.bytes _ _ fun c hc => (List.mem_append.mp hc).elim (hl c) (hm c)) h
    by_cases hb : (l.map UInt8.ofNat).toArray.isEmpty = true
    · rw [if_pos hb]
      have e : l = [] := by simpa using hb
      subst e
      exact fin u s.toks
    · rw [if_neg hb]
      by_cases hc : (m.map UInt8.ofNat).toArray.isEmpty = true
      · rw [if_pos hc]
        have e : m = [] := by simpa using hc
        subst e
        rw [List.append_nil] at fin
        exact fin t s.toks
      · rw [if_neg hc]
        refine ⟨by simp; exact size_ok hn, ?_⟩
        rw [List.append_toArray, ← List.map_append]
        exact fin s.toks (s.toks + 1)
/-- a try whose body does not raise -/
theorem TS.tryOK {body orelse : List Stmt} {h₀ : ExceptHandler} {hs : List ExceptHandler} {pos : Pos} {Q : Fl → St → Prop} (h : TSs C body (Nx C orelse Q X) X0 σ) : TS C (.Try body (h₀ :: hs) orelse [] pos) Q X σ := by
  intro z₀ zs z s hz hR
  refine wpAny_Try_except ?_
  refine wpAny_mono (h z₀ zs z s hz hR) ?_ fun _ _ x => x.absurd
  rintro f s1 ⟨z1, σ1, l1, R1, fl, rf, q⟩
  cases rf with
  | next =>
    refine wpAny_mono (q z1 zs z1 s1 (Z.le_refl _) R1) ?_ fun _ _ x => PX.le l1 x
    rintro f s2 ⟨z2, σ2, l2, R2, q2⟩
    exact ⟨z2, σ2, Z.le_trans l1 l2, R2, q2⟩
  | brk => exact ⟨z1, σ1, l1, R1, .brk, .brk, q⟩
  | cont => exact ⟨z1, σ1, l1, R1, .cont, .cont, q⟩
  | ret rv => exact ⟨z1, σ1, l1, R1, .ret _, .ret rv, q⟩
end
end PL

end
section
open PySem PySem.Calls PyProof.Rows
set_option Elab.async false
set_option linter.unusedVariables false
set_option linter.unusedSimpArgs false
set_option linter.unusedSectionVars false
set_option maxRecDepth 100000
namespace PL
/-! what join answers -/
noncomputable def jn1 (a b : List Nat) : List Nat := if headIs 47 b = true ∨ a = [] then b else if lastIs 47 a = true then a ++ b else a ++ ([47] ++ b)
noncomputable def joinP (a : List Nat) (bs : List (List Nat)) : List Nat := bs.foldl jn1 a
theorem jn1_len (a b : List Nat) : (jn1 a b).length ≤ a.length + b.length + 1 := by
  unfold jn1
  split
  · (first | lia | omega)
  · split
    · rw [List.length_append]; (first | lia | omega)
    · rw [List.length_append, List.length_append, List.length_singleton]; (first | lia | omega)
theorem joinP_len : ∀ (bs : List (List Nat)) (a : List Nat), (joinP a bs).length ≤ a.length + sumL bs + bs.length
  | [], a => by simp [joinP, sumL]
  | b :: bs, a => by
    have h1 := joinP_len bs (jn1 a b)
    have h2 := jn1_len a b
    have e : sumL (b :: bs) = b.length + sumL bs := by simp [sumL]
    show (joinP (jn1 a b) bs).length ≤ _
    rw [e, List.length_cons]; (clear e; (first | lia | omega))
theorem joinP_take {a : List Nat} {bs : List (List Nat)} {i : Nat} {b : List Nat} (h : bs[i]? = some b) : joinP a (bs.take (i + 1)) = jn1 (joinP a (bs.take i)) b := by
  unfold joinP
  rw [List.take_add_one, h, List.foldl_append]; rfl
theorem sumL_take (bs : List (List Nat)) (i : Nat) : sumL (bs.take i) ≤ sumL bs := by
  conv => rhs; rw [← List.take_append_drop i bs]
  rw [sumL_append]; exact Nat.le_add_right _ _
theorem sumL_mem {bs : List (List Nat)} {b : List Nat} (h : b ∈ bs) : b.length ≤ sumL bs := by
  induction bs with
  | nil => cases h
  | cons c r ih =>
    have e : sumL (c :: r) = c.length + sumL r := by simp [sumL]
    rcases List.mem_cons.mp h with q | h
    · subst q; (clear h ih; (first | lia | omega))
    · have := ih h; (first | lia | omega)
theorem startS {x y : Str} {a b : V} {r : List V} {H : Led} (h : x ≠ y) : Le ⟨[(x, a), (y, b)], H⟩ ⟨bindV ([x].zip (a :: r) ++ [(y, b)]) [], H⟩ := start2 h
section
variable {C : Cx} {X : XP} {σ : St} {zs z z₀ : Z} {I : Addr} {vs : List V} {S : Led → Prop} {J : Nat → Obj → Prop} {E : Value → Shared → Prop}
end
section
variable {C : Cx} {X : XP} {σ : St}
/-! the same rules, their side facts as goals (for `with_reducible`) -/
theorem TArgs.consR {e : Expr} {r : List Expr} {Q : List V → St → Prop} (he : starEach (e :: r) C.env = (false, eval e C.env) :: starEach r C.env) (h : TE C e (fun v σ1 => TArgs C r (fun vs σ2 => Q (v :: vs) σ2) X σ1) X σ) : TArgs C (e :: r) Q X σ := TArgs.cons h he
theorem TS.assignR {x : Str} {p p' : Pos} {e : Expr} {Q : Fl → St → Prop} (k : Stores C x) (hs : swapsWith e (some (.Name x p')) p.line C.env = pure false) (h : TE C e (fun v σ1 => Q .next ⟨setL σ1.loc x v, σ1.H⟩) X σ) : TS C (.Assign [.Name x p'] e p) Q X σ := TS.assign k h hs
theorem TS.augR {x : Str} {p p' : Pos} {op : Operator} {e : Expr} {v : V} {Q : Fl → St → Prop} (k : Stores C x) (hv : σ.loc.lookup x = some v)
    (h : TE C e (fun w σ1 => Inp C op v w (fun u σ2 => Q .next ⟨setL σ2.loc x u, σ2.H⟩) X σ1) X σ) : TS C (.AugAssign (.Name x p') op e p) Q X σ := TS.aug k hv h
theorem TS.exprR {e : Expr} {pos : Pos} {Q : Fl → St → Prop} (hs : swapsWith e none pos.line C.env = pure false) (h : TE C e (fun _ σ1 => Q .next σ1) X σ) : TS C (.Expr e pos) Q X σ := TS.expr h hs
end
end PL

end
section
open PySem PySem.Calls PyProof.Rows PySem.SeqAt
set_option Elab.async false
set_option linter.unusedVariables false
set_option linter.unusedSimpArgs false
set_option linter.unusedSectionVars false
set_option maxRecDepth 100000
namespace PL
/-! equality of flat data: truth values, numbers, texts of one kind, lists of these -/
inductive EqR : V → V → Bool → Prop
  | bool (a b : Bool) : EqR (.bool a) (.bool b) (a == b)
  | int (a b : Int) : EqR (.int a) (.int b) (a == b)
  | txt (o : Bool) (l m : List Nat) : EqR (.txt o l) (.txt o m) (l == m)
inductive EqRs : List V → List V → Bool → Prop
  | nil : EqRs [] [] true
  | left (b : V) (t : List V) : EqRs [] (b :: t) false
  | right (a : V) (r : List V) : EqRs (a :: r) [] false
  | cons {a b : V} {r t : List V} {p q : Bool} (h : EqR a b p) (k : EqRs r t q) : EqRs (a :: r) (b :: t) (p && q)
theorem EqRs.map {α : Type} [BEq α] (f : α → V) (h : ∀ a b, EqR (f a) (f b) (a == b)) : ∀ a b : List α, EqRs (a.map f) (b.map f) (a == b)
  | [], [] => .nil
  | [], _ :: _ => .left _ _
  | _ :: _, [] => .right _ _
  | x :: a, y :: b => .cons (h x y) (EqRs.map f h a b)
theorem EqRs.txts (o : Bool) (a b : List (List Nat)) : EqRs (a.map (.txt o)) (b.map (.txt o)) (a == b) := EqRs.map _ (.txt o) a b
theorem nat_beq (a b : Nat) : ((a : Int) == (b : Int)) = (a == b) := by
  rw [Bool.eq_iff_iff, beq_iff_eq, beq_iff_eq]; exact Int.natCast_inj
theorem EqRs.nats (a b : List Nat) : EqRs (a.map fun n : Nat => .int (n : Int)) (b.map fun n : Nat => .int (n : Int)) (a == b) := EqRs.map _ (fun a b => nat_beq a b ▸ .int _ _) a b
theorem bytes_inj {l m : List Nat} (hl : ∀ c ∈ l, c < 256) (hm : ∀ c ∈ m, c < 256) (e : l.map UInt8.ofNat = m.map UInt8.ofNat) : l = m := by
  have h1 : l = (l.map UInt8.ofNat).map UInt8.toNat := by
    rw [List.map_map]
    exact (List.map_congr_left (g := id) fun c hc => by simp [Nat.mod_eq_of_lt (hl c hc)]).trans (List.map_id l) |>.symm
  have h2 : m = (m.map UInt8.ofNat).map UInt8.toNat := by
    rw [List.map_map]
    exact (List.map_congr_left (g := id) fun c hc => by simp [Nat.mod_eq_of_lt (hm c hc)]).trans (List.map_id m) |>.symm
  rw [h1, h2, e]
theorem EqAt.bytes_bytes {A : Around} {s : Shared} (b : Array UInt8) (t : Tok) (c : Array UInt8) (u : Tok) : EqAt A s (.bytes b t) (.bytes c u) (b.toList == c.toList) := fun prog w E Q h => by
  unfold eqBool
  refine wpAny_holding ?_
  refine wpAny_ite_split (fun hab => ?_) (fun _ => ?_)
  · have := eq_of_beq hab
    injection this with e1 e2
    subst e1
    refine wpAny_bind (wpAny_rule (wpAny_pure ?_))
    simpa using h
  · exact wpAny_bind (richCompare_gives (op := .Eq) (PySem.W.typeIs_bytes _ _ _) (PySem.W.typeIs_bytes _ _ _) PySem.W.FB.slot_bytes_eq PySem.W.FB.entry_bytes_eq (PySem.W.FB.args_bytes_eq_2 _ _) (PySem.W.gives_bytes_eq b c t u) (fun x => nomatch x) (wpAny_truthy_bool h))
theorem EqAt.txt {z : Z} {A : Around} {s : Shared} {o : Bool} {l m : List Nat} {x y : Value} (r : Rep z (.txt o l) x) (q : Rep z (.txt o m) y) : EqAt A s x y (l == m) := by
  have rq := r.txt_; clear r; rcases rq with ⟨rfl, t, rfl⟩ | ⟨rfl, t, rfl, hl⟩
  · have qq := q.e; clear q; obtain ⟨u, rfl⟩ := qq
    have e : (l == m) = ((⟨l.toArray⟩ : Str) == ⟨m.toArray⟩) := by rw [← str_beq]
    rw [e]; exact EqAt.str_str _ _ _ _
  · have qq := q.e; clear q; obtain ⟨u, rfl, hm⟩ := qq
    have e : (l == m) = ((l.map UInt8.ofNat).toArray.toList == (m.map UInt8.ofNat).toArray.toList) := by
      rw [Bool.eq_iff_iff, beq_iff_eq, beq_iff_eq]
      exact ⟨fun h => h ▸ rfl, fun h => bytes_inj hl hm h⟩
    rw [e]; exact EqAt.bytes_bytes _ _ _ _
theorem in1_units (A : Around) : A.in1.units ≤ A.units + 1 := Nat.le_refl _
theorem EqR.at {z : Z} {A : Around} {s : Shared} {a b : V} {c : Bool} {x y : Value} (h : EqR a b c) (r : Rep z a x) (q : Rep z b y) : EqAt A s x y c := by
  cases h with
  | bool a b => have rq := r.e; clear r; obtain ⟨_, rfl⟩ := rq; cases q; exact EqAt.bool_bool _ _
  | int a b => have rq := r.e; clear r; obtain ⟨_, rfl⟩ := rq; cases q; exact EqAt.int_int _ _ _ _
  | txt o l m => exact EqAt.txt r q
noncomputable def EqAll (A : Around) (s : Shared) (items items2 : List Value) (e : Nat → Bool) : Prop := ∀ j (h1 : j < items.toArray.size) (h2 : j < items2.toArray.size), EqAt A s items.toArray[j] items2.toArray[j] (e j)
theorem EqRs.all {z : Z} {A : Around} {s : Shared} {vs ws : List V} {c : Bool} (h : EqRs vs ws c) : ∀ {xs ys : List Value}, RepL z vs xs → RepL z ws ys →
    ∃ e, EqAll A s xs ys e ∧ ((List.range (min xs.length ys.length)).all e && xs.length == ys.length) = c := by
  induction h with
  | nil => intro xs ys r q; cases r; cases q; exact ⟨fun _ => true, fun j h => (Nat.not_lt_zero j h).elim, rfl⟩
  | left => intro xs ys r q; cases r; cases q; exact ⟨fun _ => true, fun j h => (Nat.not_lt_zero j h).elim, rfl⟩
  | right => intro xs ys r q; cases r; cases q; exact ⟨fun _ => true, fun j _ h => (Nat.not_lt_zero j h).elim, rfl⟩
  | @cons a b r t p q h _ ih =>
    intro xs ys ra rb
    cases ra with
    | cons ha hr => cases rb with
      | cons hb ht =>
        obtain ⟨e, h1, h2⟩ := ih hr ht
        refine ⟨fun j => Nat.casesOn j p e, fun j k1 k2 => ?_, ?_⟩
        · cases j with
          | zero => exact h.at ha hb
          | succ j => exact h1 j (Nat.lt_of_succ_lt_succ k1) (Nat.lt_of_succ_lt_succ k2)
        · rw [List.length_cons, List.length_cons, Nat.succ_min_succ, List.range_succ_eq_map, List.all_cons, List.all_map, Bool.and_assoc, ← h2]
          congr 2
          rw [Bool.eq_iff_iff, beq_iff_eq, beq_iff_eq, Nat.add_right_cancel_iff]
theorem lists_eq {A : Around} {s : Shared} {l b : Addr} {items items2 : List Value} {e : Nat → Bool} (hl : s.heap.IsList l items.toArray) (hb : s.heap.IsList b items2.toArray) (hu : A.units < cLine)
    (he : EqAll A.in1 s items items2 e) : RcAt A s (.ref l) (.ref b) ((List.range (min items.length items2.length)).all e && items.length == items2.length) := by
  by_cases hs : items.length = items2.length
  · rw [hs, Nat.min_self, beq_self_eq_true, Bool.and_true]
    have := RcAt.lists (e := e) hl hb hs hu he
    rwa [List.size_toArray, hs] at this
  · rw [beq_eq_false_iff_ne.mpr hs, Bool.and_false]
    exact RcAt.lists_lengths hl hb (bne_iff_ne.mpr hs) hu
theorem lists_ne {A : Around} {s : Shared} {l b : Addr} {items items2 : List Value} {e : Nat → Bool} (hl : s.heap.IsList l items.toArray) (hb : s.heap.IsList b items2.toArray) (hu : A.units < cLine)
    (he : EqAll A.in1 s items items2 e) : RcNeAt A s (.ref l) (.ref b) (!((List.range (min items.length items2.length)).all e && items.length == items2.length)) := by
  by_cases hs : items.length = items2.length
  · rw [hs, Nat.min_self, beq_self_eq_true, Bool.and_true]
    have := RcNeAt.lists (e := e) hl hb hs hu he
    rwa [List.size_toArray, hs] at this
  · rw [beq_eq_false_iff_ne.mpr hs, Bool.and_false]
    exact RcNeAt.lists_lengths hl hb (bne_iff_ne.mpr hs) hu
theorem Cx.units_lt (C : Cx) : C.A.units < cLine := Nat.lt_of_le_of_lt (Nat.le_trans (Nat.le_add_right _ _) C.hunits) (show 9000 < 9900 by decide)
section
variable {C : Cx} {X : XP} {σ : St} {Q : V → St → Prop}
/-- two lists of data, live or not -/
theorem Cmp.eqL {v w : V} {vs ws : List V} {c : Bool} (k : IsL σ v vs) (k2 : IsL σ w ws) (c' : EqRs vs ws c) (h : Q (.bool c) σ) : Cmp C .Eq v w Q X σ := by
  intro z₀ x y rx ry zs z s hz hR
  obtain ⟨a, items, n, rfl, p, q⟩ := k.obj rx hz hR
  obtain ⟨b, items2, n2, rfl, p2, q2⟩ := k2.obj ry hz hR
  obtain ⟨e, he, rfl⟩ := c'.all (A := C.A.in1) (s := s) q q2
  exact lists_eq ⟨_, p, rfl, n, rfl⟩ ⟨_, p2, rfl, n2, rfl⟩ C.units_lt he _ _ _ _ (PVal.same hR (.bool _) h)
theorem Cmp.neL {v w : V} {vs ws : List V} {c : Bool} (k : IsL σ v vs) (k2 : IsL σ w ws) (c' : EqRs vs ws c) (h : Q (.bool (!c)) σ) : Cmp C .NotEq v w Q X σ := by
  intro z₀ x y rx ry zs z s hz hR
  obtain ⟨a, items, n, rfl, p, q⟩ := k.obj rx hz hR
  obtain ⟨b, items2, n2, rfl, p2, q2⟩ := k2.obj ry hz hR
  obtain ⟨e, he, rfl⟩ := c'.all (A := C.A.in1) (s := s) q q2
  exact lists_ne ⟨_, p, rfl, n, rfl⟩ ⟨_, p2, rfl, n2, rfl⟩ C.units_lt he _ _ _ _ (PVal.same hR (.bool _) h)
end
section
variable {C : Cx} {X : XP} {σ : St} {Q : V → St → Prop}
end
end PL

end
section
open PySem PySem.Calls PyProof.Rows PySem.SeqAt
open MeetsSeq MeetsSeq2 MeetsSeq3 SeqRoads2
open AutoSeq1 (wpAny_loadPart')
set_option Elab.async false
set_option linter.unusedVariables false
set_option linter.unusedSimpArgs false
set_option linter.unusedSectionVars false
set_option maxRecDepth 100000
namespace PL
/-! order of texts and of lists of texts -/
noncomputable def ltT (a b : List Nat) : Bool := decide (a < b)
noncomputable def ltS : List (List Nat) → List (List Nat) → Bool
  | [], [] => false
  | [], _ :: _ => true
  | _ :: _, [] => false
  | x :: a, y :: b => if x == y then ltS a b else ltT x y
noncomputable def opT : CmpOp → List Nat → List Nat → Bool
  | .Lt, a, b => ltT a b
  | _, a, b => ltT b a
noncomputable def opS : CmpOp → List (List Nat) → List (List Nat) → Bool
  | .Lt, a, b => ltS a b
  | _, a, b => ltS b a
noncomputable def RcB (op : CmpOp) (A : Around) (s : Shared) (y x : Value) (b : Bool) : Prop :=
  ∀ (prog : Program) (w : World) (E : Value → Shared → Prop) (Q : Value → Shared → Prop), Q (.bool b) s → wpAny (model prog w) A (richCompare op y x) Q E s
namespace BF
theorem slot_bytes_lt : Slot "bytes" (cmpInfo .Lt).2.1 "bytes.__lt__" :=
  .of (owner := "bytes") (n := "__lt__") (by rw [typeLookup_type, builtinLookup_eq_fast]; kernel_rfl) (by decide +kernel) (by decide +kernel) (by decide +kernel)
    (by first | exact .inl (by decide +kernel) | exact .inr (by decide +kernel)) (by rw [isSubtype_type]; kernel_rfl)
theorem entry_bytes_lt : entryFor table "bytes.__lt__" = some Builtin.«bytes.__lt__» := entryFor_of_tree (by kernel_rfl)
theorem args_bytes_lt (a b : Value) : argsOk "bytes.__lt__" ⟨[a, b], []⟩ := by
  unfold argsOk; rw [signature?_of (id := "bytes.__lt__") (n := ['_', '_', 't', 'l', '_', '_']) (o := ['s', 'e', 't', 'y', 'b']) (by kernel_rfl) PySem.W.FB.owner_bytes]; kernel_rfl
theorem slot_bytes_gt : Slot "bytes" (cmpInfo .Gt).2.1 "bytes.__gt__" :=
  .of (owner := "bytes") (n := "__gt__") (by rw [typeLookup_type, builtinLookup_eq_fast]; kernel_rfl) (by decide +kernel) (by decide +kernel) (by decide +kernel)
    (by first | exact .inl (by decide +kernel) | exact .inr (by decide +kernel)) (by rw [isSubtype_type]; kernel_rfl)
theorem entry_bytes_gt : entryFor table "bytes.__gt__" = some Builtin.«bytes.__gt__» := entryFor_of_tree (by kernel_rfl)
theorem args_bytes_gt (a b : Value) : argsOk "bytes.__gt__" ⟨[a, b], []⟩ := by
  unfold argsOk; rw [signature?_of (id := "bytes.__gt__") (n := ['_', '_', 't', 'g', '_', '_']) (o := ['s', 'e', 't', 'y', 'b']) (by kernel_rfl) PySem.W.FB.owner_bytes]; kernel_rfl
end BF
section
open Builtin
theorem ofNat_lt {a b : Nat} (ha : a < 256) (hb : b < 256) : (UInt8.ofNat a < UInt8.ofNat b) ↔ a < b := by
  rw [UInt8.lt_iff_toNat_lt]; simp [Nat.mod_eq_of_lt ha, Nat.mod_eq_of_lt hb]
theorem order_lt : ∀ (a b : List Nat), (∀ c ∈ a, c < 256) → (∀ c ∈ b, c < 256) → (Bytes.order (a.map UInt8.ofNat) (b.map UInt8.ofNat) == .lt) = ltT a b
  | [], [], _, _ => by simp [Bytes.order, ltT]
  | [], _ :: _, _, _ => by simp [Bytes.order, ltT]
  | _ :: _, [], _, _ => by simp [Bytes.order, ltT]
  | x :: a, y :: b, ha, hb => by
    have hx := ha x List.mem_cons_self
    have hy := hb y List.mem_cons_self
    have ih := order_lt a b (fun c h => ha c (List.mem_cons_of_mem _ h)) (fun c h => hb c (List.mem_cons_of_mem _ h))
    simp only [List.map_cons, Bytes.order]
    rcases Nat.lt_trichotomy x y with h | h | h
    · rw [if_pos ((ofNat_lt hx hy).mpr h)]
      simp [ltT, List.cons_lt_cons_iff, h]
    · subst h
      rw [if_neg (by rw [ofNat_lt hx hx]; (clear hy hb ih hx ha b a; (first | lia | omega))), if_neg (by show ¬ (UInt8.ofNat x < UInt8.ofNat x); rw [ofNat_lt hx hx]; (clear hy hb ih hx ha b a; (first | lia | omega))), ih]
      simp [ltT, List.cons_lt_cons_iff]
    · rw [if_neg (by rw [ofNat_lt hx hy]; (clear ih hy hx hb ha b a; (first | lia | omega))), if_pos (by show UInt8.ofNat y < UInt8.ofNat x; rw [ofNat_lt hy hx]; exact h)]
      simp [ltT, List.cons_lt_cons_iff]; (clear ih hy hx hb ha; (first | lia | omega))
theorem order_gt : ∀ (a b : List Nat), (∀ c ∈ a, c < 256) → (∀ c ∈ b, c < 256) → (Bytes.order (a.map UInt8.ofNat) (b.map UInt8.ofNat) == .gt) = ltT b a
  | [], [], _, _ => by simp [Bytes.order, ltT]
  | [], _ :: _, _, _ => by simp [Bytes.order, ltT]
  | _ :: _, [], _, _ => by simp [Bytes.order, ltT]
  | x :: a, y :: b, ha, hb => by
    have hx := ha x List.mem_cons_self
    have hy := hb y List.mem_cons_self
    have ih := order_gt a b (fun c h => ha c (List.mem_cons_of_mem _ h)) (fun c h => hb c (List.mem_cons_of_mem _ h))
    simp only [List.map_cons, Bytes.order]
    rcases Nat.lt_trichotomy x y with h | h | h
    · rw [if_pos ((ofNat_lt hx hy).mpr h)]
      simp [ltT, List.cons_lt_cons_iff]; (clear ih hy hx hb ha; (first | lia | omega))
    · subst h
      rw [if_neg (by rw [ofNat_lt hx hx]; (clear hy hb ih hx ha b a; (first | lia | omega))), if_neg (by show ¬ (UInt8.ofNat x < UInt8.ofNat x); rw [ofNat_lt hx hx]; (clear hy hb ih hx ha b a; (first | lia | omega))), ih]
      simp [ltT, List.cons_lt_cons_iff]
    · rw [if_neg (by rw [ofNat_lt hx hy]; (clear ih hy hx hb ha b a; (first | lia | omega))), if_pos (by show UInt8.ofNat y < UInt8.ofNat x; rw [ofNat_lt hy hx]; exact h)]
      simp [ltT, List.cons_lt_cons_iff, h]
theorem gives_bytes_lt {l m : List Nat} (hl : ∀ c ∈ l, c < 256) (hm : ∀ c ∈ m, c < 256) (t u : Tok) : Gives («bytes.__lt__» ⟨[.bytes (l.map UInt8.ofNat).toArray t, .bytes (m.map UInt8.ofNat).toArray u], []⟩) (.val (.bool (ltT l m))) := by
  refine .of_wp fun M A E s Q hq => ?_
  show wpAny M A (isInstance (.bytes (m.map UInt8.ofNat).toArray u) (.type "bytes") >>= fun r => _) _ E s
  refine wpAny_bind (wpAny_isInstance (PySem.W.typeIs_bytes s _ u) PySem.F.sub_bytes_bytes ?_)
  exact wpAny_pure ⟨_, rfl, by rw [← order_lt l m hl hm] at hq; exact hq⟩
theorem gives_bytes_gt {l m : List Nat} (hl : ∀ c ∈ l, c < 256) (hm : ∀ c ∈ m, c < 256) (t u : Tok) : Gives («bytes.__gt__» ⟨[.bytes (l.map UInt8.ofNat).toArray t, .bytes (m.map UInt8.ofNat).toArray u], []⟩) (.val (.bool (ltT m l))) := by
  refine .of_wp fun M A E s Q hq => ?_
  show wpAny M A (isInstance (.bytes (m.map UInt8.ofNat).toArray u) (.type "bytes") >>= fun r => _) _ E s
  refine wpAny_bind (wpAny_isInstance (PySem.W.typeIs_bytes s _ u) PySem.F.sub_bytes_bytes ?_)
  exact wpAny_pure ⟨_, rfl, by rw [← order_gt l m hl hm] at hq; exact hq⟩
end
theorem RcB.txt {z : Z} {A : Around} {s : Shared} {o : Bool} {l m : List Nat} {x y : Value} (op : CmpOp) (ho : op = .Lt ∨ op = .Gt) (r : Rep z (.txt o l) x) (q : Rep z (.txt o m) y) : RcB op A s x y (opT op l m) := fun prog w E Q h => by
  have rq := r.txt_; clear r; rcases rq with ⟨rfl, t, rfl⟩ | ⟨rfl, t, rfl, hl⟩
  · have qq := q.e; clear q; obtain ⟨u, rfl⟩ := qq
    rcases ho with rfl | rfl
    · exact richCompare_gives (op := .Lt) (typeIs_str _ _ _) (typeIs_str _ _ _) PySem.F.slot_str_lt PySem.F.entry_str_lt (PySem.F.args_str_lt_2 _ _) (gives_str_lt _ _ t u) (fun x => nomatch x) h
    · exact richCompare_gives (op := .Gt) (typeIs_str _ _ _) (typeIs_str _ _ _) PySem.F.slot_str_gt PySem.F.entry_str_gt (PySem.F.args_str_gt_2 _ _) (gives_str_gt _ _ t u) (fun x => nomatch x) h
  · have qq := q.e; clear q; obtain ⟨u, rfl, hm⟩ := qq
    rcases ho with rfl | rfl
    · exact richCompare_gives (op := .Lt) (PySem.W.typeIs_bytes _ _ _) (PySem.W.typeIs_bytes _ _ _) BF.slot_bytes_lt BF.entry_bytes_lt (BF.args_bytes_lt _ _) (gives_bytes_lt hl hm t u) (fun x => nomatch x) h
    · exact richCompare_gives (op := .Gt) (PySem.W.typeIs_bytes _ _ _) (PySem.W.typeIs_bytes _ _ _) BF.slot_bytes_gt BF.entry_bytes_gt (BF.args_bytes_gt _ _) (gives_bytes_gt hl hm t u) (fun x => nomatch x) h
noncomputable def lexR (e c : Nat → Bool) (fin : Bool) : Nat → Nat → Bool
  | i, 0 => fin
  | i, k + 1 => if e i then lexR e c fin (i + 1) k else c i
noncomputable def opN : CmpOp → Nat → Nat → Bool
  | .Lt, a, b => decide (a < b)
  | _, a, b => decide (b < a)
noncomputable def opCode : CmpOp → Int
  | .Lt => 0
  | _ => 4
set_option maxHeartbeats 4000000 in
theorem lt_loopAt (op : CmpOp) (ho : op = .Lt ∨ op = .Gt) (l b : Addr) (items items2 : Array Value) (n n2 : Nat) (dd dd2 : Option Addr) (sl sl2 : Array (Option Value)) (e c : Nat → Bool) (k : Nat) :
    ∀ i : Nat, min items.size items2.size - i = k → i ≤ min items.size items2.size → Meets (Builtin.«list.__eq__.loop» ⟨[.ref l, .ref b, rawInt i, rawInt (opCode op)], []⟩)
      (fun A R s => s.heap.get? l = some { cls := .type "list", dict := dd, data := .seq items n, slots := sl } ∧ s.heap.get? b = some { cls := .type "list", dict := dd2, data := .seq items2 n2, slots := sl2 } ∧
        (∀ j (h1 : j < items.size) (h2 : j < items2.size), EqAt A.in1 s items[j] items2[j] (e j)) ∧ (∀ j (h1 : j < items.size) (h2 : j < items2.size), e j = false → RcB op A.in1 s items[j] items2[j] (c j)) ∧
        R (.ok (.ret (.bool (lexR e c (opN op items.size items2.size) i k)))) s) := by
  induction k with
  | zero =>
    intro i hk hi prog w A R s h
    obtain ⟨hp, g, d, tk, os⟩ := s; obtain ⟨hl, hb, he, hc, h⟩ := h
    rcases ho with rfl | rfl
    · wp_walk using wpAny_loadPart' hl, wpAny_loadPart' hb
      have hn : items[((i : Nat) : Int).toNat]? = none ∨ items2[((i : Nat) : Int).toNat]? = none := by
        by_cases q : items.size ≤ i
        · left; simp; (clear h hc he hb hl os tk d g hp R A w prog hi hk c e sl2 sl dd2 dd n2 n items2 b l; (first | lia | omega))
        · right; simp; (clear h hc he hb hl os tk d g hp R A w prog hi c e sl2 sl dd2 dd n2 n b l; (first | lia | omega))
      rcases hn with hn | hn
      · rw [hn]; wp_walk using wpAny_loadPart' hl, wpAny_loadPart' hb; exact h
      · rw [hn]
        cases items[((i : Nat) : Int).toNat]? <;> (wp_walk using wpAny_loadPart' hl, wpAny_loadPart' hb; exact h)
    · wp_walk using wpAny_loadPart' hl, wpAny_loadPart' hb
      have hn : items[((i : Nat) : Int).toNat]? = none ∨ items2[((i : Nat) : Int).toNat]? = none := by
        by_cases q : items.size ≤ i
        · left; simp; (clear h hc he hb hl os tk d g hp R A w prog hi hk c e sl2 sl dd2 dd n2 n items2 b l; (first | lia | omega))
        · right; simp; (clear h hc he hb hl os tk d g hp R A w prog hi c e sl2 sl dd2 dd n2 n b l; (first | lia | omega))
      rcases hn with hn | hn
      · rw [hn]; wp_walk using wpAny_loadPart' hl, wpAny_loadPart' hb; exact h
      · rw [hn]
        cases items[((i : Nat) : Int).toNat]? <;> (wp_walk using wpAny_loadPart' hl, wpAny_loadPart' hb; exact h)
  | succ k ih =>
    intro i hk hi prog w A R s h
    obtain ⟨hp, g, d, tk, os⟩ := s; obtain ⟨hl, hb, he, hc, h⟩ := h
    have hlt : i < items.size := by (clear h hc he hb hl os tk d g hp R A w prog ih c e sl2 sl dd2 dd n2 n b l ho op hi; (first | lia | omega))
    have hlt2 : i < items2.size := by (clear h hc he hb hl os tk d g hp R A w prog ih c e sl2 sl dd2 dd n2 n b l ho op hlt hi; (first | lia | omega))
    have hi1 : items[((i : Nat) : Int).toNat]? = some items[i] := by simp [hlt]
    have hi2 : items2[((i : Nat) : Int).toNat]? = some items2[i] := by simp [hlt2]
    have hcc : ((i : Int) + 1) = ((i + 1 : Nat) : Int) := by push_cast; rfl
    rw [lexR] at h
    rcases ho with rfl | rfl
    · wp_walk using wpAny_loadPart' hl, wpAny_loadPart' hb
      rw [hi1, hi2]
      refine wpAny_bind (he i hlt hlt2 prog w _ _ ?_)
      cases hb' : e i with
      | true =>
        rw [hb', if_pos rfl] at h
        wp_walk
        rw [hcc]
        exact ⟨plainId_quiet plain_eq_loop _, codeAny_builtin entry_eq_loop (by
          rw [Around.under_plainId plain_eq_loop _]
          exact ih (i + 1) (by (clear hb' h hc ih hcc hi2 hi1 he hb hl os tk d g hp R A w prog c e sl2 sl dd2 dd n2 n b l hlt2 hlt hi; (first | lia | omega))) (by (clear hb' h hc ih hcc hi2 hi1 he hb hl os tk d g hp R A w prog hk c e sl2 sl dd2 dd n2 n b l k hi; (first | lia | omega))) prog w A R _ ⟨hl, hb, he, hc, h⟩)⟩
      | false =>
        rw [hb', if_neg Bool.false_ne_true] at h
        wp_walk using wpAny_loadPart' hl, wpAny_loadPart' hb
        rw [hi1, hi2]
        refine wpAny_bind (hc i hlt hlt2 hb' prog w _ _ ?_)
        wp_walk
        exact h
    · wp_walk using wpAny_loadPart' hl, wpAny_loadPart' hb
      rw [hi1, hi2]
      refine wpAny_bind (he i hlt hlt2 prog w _ _ ?_)
      cases hb' : e i with
      | true =>
        rw [hb', if_pos rfl] at h
        wp_walk
        rw [hcc]
        exact ⟨plainId_quiet plain_eq_loop _, codeAny_builtin entry_eq_loop (by
          rw [Around.under_plainId plain_eq_loop _]
          exact ih (i + 1) (by (clear hb' h hc ih hcc hi2 hi1 he hb hl os tk d g hp R A w prog c e sl2 sl dd2 dd n2 n b l hlt2 hlt hi; (first | lia | omega))) (by (clear hb' h hc ih hcc hi2 hi1 he hb hl os tk d g hp R A w prog hk c e sl2 sl dd2 dd n2 n b l k hi; (first | lia | omega))) prog w A R _ ⟨hl, hb, he, hc, h⟩)⟩
      | false =>
        rw [hb', if_neg Bool.false_ne_true] at h
        wp_walk using wpAny_loadPart' hl, wpAny_loadPart' hb
        rw [hi1, hi2]
        refine wpAny_bind (hc i hlt hlt2 hb' prog w _ _ ?_)
        wp_walk
        exact h
set_option maxHeartbeats 4000000 in
theorem list_ltAt (l b : Addr) (items items2 : Array Value) (n n2 : Nat) (dd dd2 : Option Addr) (sl sl2 : Array (Option Value)) (e c : Nat → Bool) :
    Meets (Builtin.«list.__lt__» ⟨[.ref l, .ref b], []⟩)
      (fun A R s => s.heap.get? l = some { cls := .type "list", dict := dd, data := .seq items n, slots := sl } ∧ s.heap.get? b = some { cls := .type "list", dict := dd2, data := .seq items2 n2, slots := sl2 } ∧
        (∀ j (h1 : j < items.size) (h2 : j < items2.size), EqAt A.in1 s items[j] items2[j] (e j)) ∧ (∀ j (h1 : j < items.size) (h2 : j < items2.size), e j = false → RcB .Lt A.in1 s items[j] items2[j] (c j)) ∧
        R (.ok (.ret (.bool (lexR e c (opN .Lt items.size items2.size) 0 (min items.size items2.size))))) s) := by
  intro prog w A R s h
  obtain ⟨hp, g, d, tk, os⟩ := s; obtain ⟨hl, hb, he, hc, h⟩ := h
  have f3 := AutoSeq1.sub_list_list
  wp_walk using wpAny_loadPart' hl, wpAny_loadPart' hb
  exact ⟨plainId_quiet plain_eq_loop _, codeAny_builtin entry_eq_loop (by
    rw [Around.under_plainId plain_eq_loop _]
    exact lt_loopAt .Lt (by simp) l b items items2 n n2 dd dd2 sl sl2 e c _ 0 rfl (Nat.zero_le _) prog w A R _ ⟨hl, hb, he, hc, by simpa using h⟩)⟩
theorem RcB.lists_lt {A : Around} {s : Shared} {l b : Addr} {items items2 : Array Value} {e c : Nat → Bool} (hl : s.heap.IsList l items) (hb : s.heap.IsList b items2) (hu : A.units < cLine)
    (he : ∀ j (h1 : j < items.size) (h2 : j < items2.size), EqAt A.in1 s items[j] items2[j] (e j)) (hc : ∀ j (h1 : j < items.size) (h2 : j < items2.size), e j = false → RcB .Lt A.in1 s items[j] items2[j] (c j)) :
    RcB .Lt A s (.ref l) (.ref b) (lexR e c (opN .Lt items.size items2.size) 0 (min items.size items2.size)) := fun prog w E Q h => by
  obtain ⟨⟨cls, dd, data, sl⟩, ho, hc1, n, hd⟩ := id hl
  obtain ⟨⟨cls2, dd2, data2, sl2⟩, ho2, hc2, n2, hd2⟩ := id hb
  simp only at hc1 hd hc2 hd2
  subst hc1 hd hc2 hd2
  exact richCompare_meets_room (op := .Lt) ⟨_, ho, rfl⟩ ⟨_, ho2, rfl⟩ PySem.F.slot_list_lt PySem.F.entry_list_lt (PySem.F.args_list_lt_2 _ _) (list_ltAt l b items items2 n n2 dd dd2 sl sl2 e c)
    ⟨ho, ho2, he, hc, show Value.bool (lexR e c (opN .Lt items.size items2.size) 0 (min items.size items2.size)) ≠ Value.notImplemented ∧ Q (.bool (lexR e c (opN .Lt items.size items2.size) 0 (min items.size items2.size))) s from ⟨(fun x => nomatch x), h⟩⟩ hu
set_option maxHeartbeats 4000000 in
theorem list_gtAt (l b : Addr) (items items2 : Array Value) (n n2 : Nat) (dd dd2 : Option Addr) (sl sl2 : Array (Option Value)) (e c : Nat → Bool) :
    Meets (Builtin.«list.__gt__» ⟨[.ref l, .ref b], []⟩)
      (fun A R s => s.heap.get? l = some { cls := .type "list", dict := dd, data := .seq items n, slots := sl } ∧ s.heap.get? b = some { cls := .type "list", dict := dd2, data := .seq items2 n2, slots := sl2 } ∧
        (∀ j (h1 : j < items.size) (h2 : j < items2.size), EqAt A.in1 s items[j] items2[j] (e j)) ∧ (∀ j (h1 : j < items.size) (h2 : j < items2.size), e j = false → RcB .Gt A.in1 s items[j] items2[j] (c j)) ∧
        R (.ok (.ret (.bool (lexR e c (opN .Gt items.size items2.size) 0 (min items.size items2.size))))) s) := by
  intro prog w A R s h
  obtain ⟨hp, g, d, tk, os⟩ := s; obtain ⟨hl, hb, he, hc, h⟩ := h
  have f3 := AutoSeq1.sub_list_list
  wp_walk using wpAny_loadPart' hl, wpAny_loadPart' hb
  exact ⟨plainId_quiet plain_eq_loop _, codeAny_builtin entry_eq_loop (by
    rw [Around.under_plainId plain_eq_loop _]
    exact lt_loopAt .Gt (by simp) l b items items2 n n2 dd dd2 sl sl2 e c _ 0 rfl (Nat.zero_le _) prog w A R _ ⟨hl, hb, he, hc, by simpa using h⟩)⟩
theorem RcB.lists_gt {A : Around} {s : Shared} {l b : Addr} {items items2 : Array Value} {e c : Nat → Bool} (hl : s.heap.IsList l items) (hb : s.heap.IsList b items2) (hu : A.units < cLine)
    (he : ∀ j (h1 : j < items.size) (h2 : j < items2.size), EqAt A.in1 s items[j] items2[j] (e j)) (hc : ∀ j (h1 : j < items.size) (h2 : j < items2.size), e j = false → RcB .Gt A.in1 s items[j] items2[j] (c j)) :
    RcB .Gt A s (.ref l) (.ref b) (lexR e c (opN .Gt items.size items2.size) 0 (min items.size items2.size)) := fun prog w E Q h => by
  obtain ⟨⟨cls, dd, data, sl⟩, ho, hc1, n, hd⟩ := id hl
  obtain ⟨⟨cls2, dd2, data2, sl2⟩, ho2, hc2, n2, hd2⟩ := id hb
  simp only at hc1 hd hc2 hd2
  subst hc1 hd hc2 hd2
  exact richCompare_meets_room (op := .Gt) ⟨_, ho, rfl⟩ ⟨_, ho2, rfl⟩ PySem.F.slot_list_gt PySem.F.entry_list_gt (PySem.F.args_list_gt_2 _ _) (list_gtAt l b items items2 n n2 dd dd2 sl sl2 e c)
    ⟨ho, ho2, he, hc, show Value.bool (lexR e c (opN .Gt items.size items2.size) 0 (min items.size items2.size)) ≠ Value.notImplemented ∧ Q (.bool (lexR e c (opN .Gt items.size items2.size) 0 (min items.size items2.size))) s from ⟨(fun x => nomatch x), h⟩⟩ hu
noncomputable def eqT (vs ws : List (List Nat)) (j : Nat) : Bool := match vs[j]?, ws[j]? with
  | some a, some b => a == b
  | _, _ => true
noncomputable def opTat (op : CmpOp) (vs ws : List (List Nat)) (j : Nat) : Bool := match vs[j]?, ws[j]? with
  | some a, some b => opT op a b
  | _, _ => true
theorem lexR_shift (e c e' c' : Nat → Bool) (fin : Bool) (he : ∀ j, e' j = e (j + 1)) (hc : ∀ j, c' j = c (j + 1)) : ∀ (k i : Nat), lexR e c fin (i + 1) k = lexR e' c' fin i k
  | 0, i => rfl
  | k + 1, i => by rw [lexR, lexR, he, hc, lexR_shift e c e' c' fin he hc k (i + 1)]
theorem lexR_texts (op : CmpOp) (ho : op = .Lt ∨ op = .Gt) : ∀ (vs ws : List (List Nat)), lexR (eqT vs ws) (opTat op vs ws) (opN op vs.length ws.length) 0 (min vs.length ws.length) = opS op vs ws
  | [], [] => by rcases ho with rfl | rfl <;> rfl
  | [], b :: t => by
    rcases ho with rfl | rfl
    · simp [lexR, opN, opS, ltS]
    · simp [lexR, opN, opS, ltS]
  | a :: r, [] => by
    rcases ho with rfl | rfl
    · simp [lexR, opN, opS, ltS]
    · simp [lexR, opN, opS, ltS]
  | a :: r, b :: t => by
    have ih := lexR_texts op ho r t
    have e1 : min (a :: r).length (b :: t).length = min r.length t.length + 1 := by simp [Nat.add_min_add_right]
    rw [e1, lexR, lexR_shift (eqT (a :: r) (b :: t)) _ (eqT r t) (opTat op r t) _ (fun j => by simp [eqT]) (fun j => by simp [opTat])]
    have e2 : opN op (a :: r).length (b :: t).length = opN op r.length t.length := by rcases ho with rfl | rfl <;> simp [opN]
    rw [e2, ih]
    rcases ho with rfl | rfl
    · simp [eqT, opTat, opS, opT, ltS]
    · simp only [eqT, opTat, opS, opT, ltS, List.getElem?_cons_zero]
      by_cases h : a = b
      · subst h; simp
      · have : b ≠ a := fun q => h q.symm
        simp [h, this]
theorem RcB.texts {z : Z} {A : Around} {s : Shared} {o : Bool} {l b : Addr} {vs ws : List (List Nat)} {items items2 : List Value} (op : CmpOp) (ho : op = .Lt ∨ op = .Gt) (hl : s.heap.IsList l items.toArray) (hb : s.heap.IsList b items2.toArray)
    (r : RepL z (vs.map (.txt o)) items) (q : RepL z (ws.map (.txt o)) items2) (hu : A.units < cLine) : RcB op A s (.ref l) (.ref b) (opS op vs ws) := by
  have h1 := r.length
  have h2 := q.length
  rw [List.length_map] at h1 h2
  have get : ∀ j (h1 : j < items.toArray.size) (h2 : j < items2.toArray.size), ∃ a b, vs[j]? = some a ∧ ws[j]? = some b ∧ Rep z (.txt o a) items.toArray[j] ∧ Rep z (.txt o b) items2.toArray[j] := by
    intro j k1 k2
    have k1' : j < vs.length := by simpa [h1] using k1
    have k2' : j < ws.length := by simpa [h2] using k2
    obtain ⟨x, hx, rx⟩ := r.get (i := j) (v := .txt o vs[j]) (by simp [k1'])
    obtain ⟨y, hy, ry⟩ := q.get (i := j) (v := .txt o ws[j]) (by simp [k2'])
    refine ⟨vs[j], ws[j], by simp [k1'], by simp [k2'], ?_, ?_⟩
    · have : items.toArray[j] = x := by
        have := List.getElem?_eq_some_iff.mp hx
        obtain ⟨_, e⟩ := this; simpa using e
      rw [this]; exact rx
    · have : items2.toArray[j] = y := by
        have := List.getElem?_eq_some_iff.mp hy
        obtain ⟨_, e⟩ := this; simpa using e
      rw [this]; exact ry
  have he : ∀ j (h1 : j < items.toArray.size) (h2 : j < items2.toArray.size), EqAt A.in1 s items.toArray[j] items2.toArray[j] (eqT vs ws j) := by
    intro j k1 k2
    obtain ⟨a, b, e1, e2, ra, rb⟩ := get j k1 k2
    have : eqT vs ws j = (a == b) := by simp [eqT, e1, e2]
    rw [this]; exact EqAt.txt ra rb
  have hc : ∀ j (h1 : j < items.toArray.size) (h2 : j < items2.toArray.size), eqT vs ws j = false → RcB op A.in1 s items.toArray[j] items2.toArray[j] (opTat op vs ws j) := by
    intro j k1 k2 _
    obtain ⟨a, b, e1, e2, ra, rb⟩ := get j k1 k2
    have : opTat op vs ws j = opT op a b := by simp [opTat, e1, e2]
    rw [this]; exact RcB.txt op ho ra rb
  have e := lexR_texts op ho vs ws
  rw [← h1, ← h2] at e
  rcases ho with rfl | rfl
  · have := RcB.lists_lt hl hb hu he hc
    rw [List.size_toArray, List.size_toArray, e] at this; exact this
  · have := RcB.lists_gt hl hb hu he hc
    rw [List.size_toArray, List.size_toArray, e] at this; exact this
noncomputable def KeptBut (I S : Addr) (h h' : Heap) : Prop := ∀ b o, b ≠ I → b ≠ S → h.get? b = some o → h'.get? b = some o
section
variable {prog : Program} {w : World} {A : Around} {R : Result → Shared → Prop}
theorem min_loopL (hh : A.handled = none) {l I S : Addr} {items : Array Value} (hlI : l ≠ I) (hSI : S ≠ I) (hlS : l ≠ S) (bt : Nat → Nat → Bool) (h0 : Heap) (hl : h0.IsList l items)
    (cmp : ∀ (s : Shared) i j (hi : i < items.size) (hj : j < items.size), KeptBut I S h0 s.heap → RcB .Lt A.in1 s items[i] items[j] (bt i j)) :
    ∀ (k j : Nat) (s : Shared) (vb : Value) (c : Nat), items.size - (j + 1) = k → j + 1 ≤ items.size → s.heap.IsListIter I l (j + 1) → items[argBest bt j]? = some vb → KeptBut I S h0 s.heap →
    s.heap.get? S = some { cls := .type "list", dict := none, data := .seq #[vb, vb] c, slots := #[] } →
    (∀ v h', items[argBest bt (items.size - 1)]? = some v → KeptBut I S s.heap h' → R (.ok (.ret v)) { s with heap := h' }) →
    codeAny (model prog w) A (.builtin "min.loop" ⟨[.ref I, .none, .ref S], []⟩) R s := by
  have hname : (toString "min" ++ toString ".loop" : String) = "min.loop" := by decide
  intro k
  induction k with
  | zero =>
    intro j s vb c hk hj hit hPb hke hS hR
    have hin : j + 1 = items.size := by (clear hR hS hke hPb hit c vb s hname cmp hl h0 bt hlS hSI hlI S I l hh; (first | lia | omega))
    refine codeAny_builtin F.entry_min_loop ?_
    rw [Around.under_plainId F.plain_min_loop _]
    show wpAny _ A.in1 (seqItems? (.ref S) >>= _) _ _ s
    refine wpAny_bind (wpAny_seqItems hS rfl ?_)
    show wpAny _ A.in1 (tryCatch (pyNext (.ref I)) _ >>= _) _ _ s
    have hl' : s.heap.IsList l items := let ⟨o, e, r⟩ := hl; ⟨o, hke _ _ hlI hlS e, r⟩
    refine wpAny_bind (wpAny_tryCatch (wpAny_pyNext_list_end (A := A.in1) hh hit hl' (by simp; (clear hl' hR hS hke hPb hit hj hk c vb s hname cmp hl h0 bt hlS hSI hlI S I l hh; (first | lia | omega))) fun h' hx => ?_))
    have hS' := hx S _ hSI hS
    show wpAny _ A.in1 (updateSeq S (fun _ => #[]) >>= _) _ _ _
    refine wpAny_bind ?_
    refine wpAny_updateSeq hS' rfl (wpAny_bind (wpAny_letGo (wpAny_pure ?_)))
    refine hR vb _ (by rw [← hin]; exact hPb) fun b o n1 n2 e => (Heap.get?_update_other _ _ (Ne.symm n2)).trans (hx b o n1 e)
  | succ k ih =>
    intro j s vb c hk hj hit hPb hke hS hR
    have hlt : j + 1 < items.size := by (clear hR hS hke hPb hit c vb s ih hname cmp hl h0 bt hlS hSI hlI S I l hh hj; (first | lia | omega))
    refine codeAny_builtin F.entry_min_loop ?_
    rw [Around.under_plainId F.plain_min_loop _]
    show wpAny _ A.in1 (seqItems? (.ref S) >>= _) _ _ s
    refine wpAny_bind (wpAny_seqItems hS rfl ?_)
    show wpAny _ A.in1 (tryCatch (pyNext (.ref I)) _ >>= _) _ _ s
    have hl' : s.heap.IsList l items := let ⟨o, e, r⟩ := hl; ⟨o, hke _ _ hlI hlS e, r⟩
    refine wpAny_bind (wpAny_tryCatch (wpAny_pyNext_list_item hit hl' (x := items[j + 1]) (by simp [hlt]) fun h' hit' hsb => ?_))
    have hS' := (hsb.2 S hSI).trans hS
    have hke' : KeptBut I S h0 h' := fun b o n1 n2 e => (hsb.2 b n1).trans (hke b o n1 n2 e)
    show wpAny _ A.in1 (tryCatch (holding [items[j + 1], items[j + 1]] (richCompare .Lt items[j + 1] vb >>= _)) _ >>= _) _ _ _
    have hbl : argBest bt j < items.size := (Array.getElem?_eq_some_iff.mp hPb).1
    have hbv : items[argBest bt j] = vb := (Array.getElem?_eq_some_iff.mp hPb).2
    have hcmp := cmp { s with heap := h' } (j + 1) (argBest bt j) hlt hbl hke'
    rw [hbv] at hcmp
    refine wpAny_bind (wpAny_tryCatch (wpAny_holding (wpAny_bind (hcmp prog w _ _ ?_))))
    refine wpAny_bind (wpAny_holding (wpAny_truthy_bool ?_))
    refine wpAny_bind (wpAny_letGo (wpAny_pure ?_))
    cases hb : bt (j + 1) (argBest bt j) with
    | true =>
      simp only [if_true]
      refine wpAny_bind ?_
      refine wpAny_updateSeq hS' rfl (wpAny_bind (wpAny_letGo ?_))
      rw [hname]
      have hit2 : (h'.update S (Obj.mapSeq fun _ => #[items[j + 1], items[j + 1]])).IsListIter I l (j + 1 + 1) := let ⟨o, e, r⟩ := hit'; ⟨o, (Heap.get?_update_other _ _ hSI).trans e, r⟩
      refine wpAny_pure ⟨plainId_quiet F.plain_min_loop _, ih (j + 1) _ items[j + 1] _ (by (clear hit2 hb hcmp hbv hbl hke' hS' hsb hit' h' hl' hR hS hke hPb hit hj c vb s ih hname cmp hl h0 hlS hSI hlI S I l hh bt hlt; (first | lia | omega))) hlt hit2 (by simp only [argBest, hb, if_true]; simp [hlt]) (fun b o n1 n2 e => (Heap.get?_update_other _ _ (Ne.symm n2)).trans (hke' b o n1 n2 e)) (Heap.get?_update_self _ hS' rfl)
        fun v' h'' hP' hk'' => ?_⟩
      exact hR v' h'' hP' fun b o n1 n2 e => hk'' b o n1 n2 ((Heap.get?_update_other _ _ (Ne.symm n2)).trans ((hsb.2 b n1).trans e))
    | false =>
      simp only [Bool.false_eq_true, if_false]
      refine wpAny_bind (wpAny_letGo ?_)
      rw [hname]
      refine wpAny_pure ⟨plainId_quiet F.plain_min_loop _, ih (j + 1) _ vb c (by (clear hb hcmp hbv hbl hke' hS' hsb hit' h' hl' hR hS hke hPb hit hj c vb s ih hname cmp hl h0 hlS hSI hlI S I l hh bt hlt; (first | lia | omega))) hlt hit' (by simp only [argBest, hb, Bool.false_eq_true, if_false]; exact hPb) hke' hS' fun v' h'' hP' hk'' => ?_⟩
      exact hR v' h'' hP' fun b o n1 n2 e => hk'' b o n1 n2 ((hsb.2 b n1).trans e)
theorem max_loopL (hh : A.handled = none) {l I S : Addr} {items : Array Value} (hlI : l ≠ I) (hSI : S ≠ I) (hlS : l ≠ S) (bt : Nat → Nat → Bool) (h0 : Heap) (hl : h0.IsList l items)
    (cmp : ∀ (s : Shared) i j (hi : i < items.size) (hj : j < items.size), KeptBut I S h0 s.heap → RcB .Gt A.in1 s items[i] items[j] (bt i j)) :
    ∀ (k j : Nat) (s : Shared) (vb : Value) (c : Nat), items.size - (j + 1) = k → j + 1 ≤ items.size → s.heap.IsListIter I l (j + 1) → items[argBest bt j]? = some vb → KeptBut I S h0 s.heap →
    s.heap.get? S = some { cls := .type "list", dict := none, data := .seq #[vb, vb] c, slots := #[] } →
    (∀ v h', items[argBest bt (items.size - 1)]? = some v → KeptBut I S s.heap h' → R (.ok (.ret v)) { s with heap := h' }) →
    codeAny (model prog w) A (.builtin "max.loop" ⟨[.ref I, .none, .ref S], []⟩) R s := by
  have hname : (toString "max" ++ toString ".loop" : String) = "max.loop" := by decide
  intro k
  induction k with
  | zero =>
    intro j s vb c hk hj hit hPb hke hS hR
    have hin : j + 1 = items.size := by (clear hR hS hke hPb hit c vb s hname cmp hl h0 bt hlS hSI hlI S I l hh; (first | lia | omega))
    refine codeAny_builtin F.entry_max_loop ?_
    rw [Around.under_plainId F.plain_max_loop _]
    show wpAny _ A.in1 (seqItems? (.ref S) >>= _) _ _ s
    refine wpAny_bind (wpAny_seqItems hS rfl ?_)
    show wpAny _ A.in1 (tryCatch (pyNext (.ref I)) _ >>= _) _ _ s
    have hl' : s.heap.IsList l items := let ⟨o, e, r⟩ := hl; ⟨o, hke _ _ hlI hlS e, r⟩
    refine wpAny_bind (wpAny_tryCatch (wpAny_pyNext_list_end (A := A.in1) hh hit hl' (by simp; (clear hl' hR hS hke hPb hit hj hk c vb s hname cmp hl h0 bt hlS hSI hlI S I l hh; (first | lia | omega))) fun h' hx => ?_))
    have hS' := hx S _ hSI hS
    show wpAny _ A.in1 (updateSeq S (fun _ => #[]) >>= _) _ _ _
    refine wpAny_bind ?_
    refine wpAny_updateSeq hS' rfl (wpAny_bind (wpAny_letGo (wpAny_pure ?_)))
    refine hR vb _ (by rw [← hin]; exact hPb) fun b o n1 n2 e => (Heap.get?_update_other _ _ (Ne.symm n2)).trans (hx b o n1 e)
  | succ k ih =>
    intro j s vb c hk hj hit hPb hke hS hR
    have hlt : j + 1 < items.size := by (clear hR hS hke hPb hit c vb s ih hname cmp hl h0 bt hlS hSI hlI S I l hh hj; (first | lia | omega))
    refine codeAny_builtin F.entry_max_loop ?_
    rw [Around.under_plainId F.plain_max_loop _]
    show wpAny _ A.in1 (seqItems? (.ref S) >>= _) _ _ s
    refine wpAny_bind (wpAny_seqItems hS rfl ?_)
    show wpAny _ A.in1 (tryCatch (pyNext (.ref I)) _ >>= _) _ _ s
    have hl' : s.heap.IsList l items := let ⟨o, e, r⟩ := hl; ⟨o, hke _ _ hlI hlS e, r⟩
    refine wpAny_bind (wpAny_tryCatch (wpAny_pyNext_list_item hit hl' (x := items[j + 1]) (by simp [hlt]) fun h' hit' hsb => ?_))
    have hS' := (hsb.2 S hSI).trans hS
    have hke' : KeptBut I S h0 h' := fun b o n1 n2 e => (hsb.2 b n1).trans (hke b o n1 n2 e)
    show wpAny _ A.in1 (tryCatch (holding [items[j + 1], items[j + 1]] (richCompare .Gt items[j + 1] vb >>= _)) _ >>= _) _ _ _
    have hbl : argBest bt j < items.size := (Array.getElem?_eq_some_iff.mp hPb).1
    have hbv : items[argBest bt j] = vb := (Array.getElem?_eq_some_iff.mp hPb).2
    have hcmp := cmp { s with heap := h' } (j + 1) (argBest bt j) hlt hbl hke'
    rw [hbv] at hcmp
    refine wpAny_bind (wpAny_tryCatch (wpAny_holding (wpAny_bind (hcmp prog w _ _ ?_))))
    refine wpAny_bind (wpAny_holding (wpAny_truthy_bool ?_))
    refine wpAny_bind (wpAny_letGo (wpAny_pure ?_))
    cases hb : bt (j + 1) (argBest bt j) with
    | true =>
      simp only [if_true]
      refine wpAny_bind ?_
      refine wpAny_updateSeq hS' rfl (wpAny_bind (wpAny_letGo ?_))
      rw [hname]
      have hit2 : (h'.update S (Obj.mapSeq fun _ => #[items[j + 1], items[j + 1]])).IsListIter I l (j + 1 + 1) := let ⟨o, e, r⟩ := hit'; ⟨o, (Heap.get?_update_other _ _ hSI).trans e, r⟩
      refine wpAny_pure ⟨plainId_quiet F.plain_max_loop _, ih (j + 1) _ items[j + 1] _ (by (clear hit2 hb hcmp hbv hbl hke' hS' hsb hit' h' hl' hR hS hke hPb hit hj c vb s ih hname cmp hl h0 hlS hSI hlI S I l hh bt hlt; (first | lia | omega))) hlt hit2 (by simp only [argBest, hb, if_true]; simp [hlt]) (fun b o n1 n2 e => (Heap.get?_update_other _ _ (Ne.symm n2)).trans (hke' b o n1 n2 e)) (Heap.get?_update_self _ hS' rfl)
        fun v' h'' hP' hk'' => ?_⟩
      exact hR v' h'' hP' fun b o n1 n2 e => hk'' b o n1 n2 ((Heap.get?_update_other _ _ (Ne.symm n2)).trans ((hsb.2 b n1).trans e))
    | false =>
      simp only [Bool.false_eq_true, if_false]
      refine wpAny_bind (wpAny_letGo ?_)
      rw [hname]
      refine wpAny_pure ⟨plainId_quiet F.plain_max_loop _, ih (j + 1) _ vb c (by (clear hb hcmp hbv hbl hke' hS' hsb hit' h' hl' hR hS hke hPb hit hj c vb s ih hname cmp hl h0 hlS hSI hlI S I l hh bt hlt; (first | lia | omega))) hlt hit' (by simp only [argBest, hb, Bool.false_eq_true, if_false]; exact hPb) hke' hS' fun v' h'' hP' hk'' => ?_⟩
      exact hR v' h'' hP' fun b o n1 n2 e => hk'' b o n1 n2 ((hsb.2 b n1).trans e)
end
section
variable {prog : Program} {w : World} {A : Around} {E : Value → Shared → Prop} {s : Shared}
theorem call_min_list (hh : A.handled = none) {l : Addr} {items : Array Value} {Q : Value → Shared → Prop} (hl : s.heap.IsList l items) (h0 : 0 < items.size) (bt : Nat → Nat → Bool)
    (cmp : ∀ (s' : Shared) i j (hi : i < items.size) (hj : j < items.size), (∀ b o, s.heap.get? b = some o → s'.heap.get? b = some o) → RcB .Lt A.in1.in1 s' items[i] items[j] (bt i j))
    (hQ : ∀ v h', items[argBest bt (items.size - 1)]? = some v → (∀ b o, s.heap.get? b = some o → h'.get? b = some o) → Q v { s with heap := h' }) :
    wpAny (model prog w) A (call (.builtin "min") [.ref l]) Q E s := by
  have hname : (toString "min" ++ toString ".loop" : String) = "min.loop" := by decide
  refine call_function_tree F.kind_min F.plain_min F.entry_min (F.args_min1 _) ?_
  show wpAny _ A.in1 (Builtin.Builtins.bindParams "min" ["key", "default"] 0 ⟨[], []⟩ >>= _) _ _ s
  refine wpAny_bind (wpAny_of_eq (show Builtin.Builtins.bindParams "min" ["key", "default"] 0 ⟨[], []⟩ = pure [none, none] from rfl) ?_)
  refine wpAny_bind (wpAny_pure ?_)
  refine wpAny_bind (wpAny_pyIter_list hl ?_)
  refine wpAny_bind (wpAny_newObj_type ?_)
  rw [hname]
  have hll : l < s.heap.objs.size := let ⟨o, e, _⟩ := hl; Heap.lt_size e
  have hz : (s.heap.push { cls := .type "list_iterator", data := .fields #[.ref l, .int 0 0] }).objs.size = s.heap.objs.size + 1 := Heap.size_push ..
  have hI : ((s.heap.push { cls := .type "list_iterator", data := .fields #[.ref l, .int 0 0] }).push { cls := .type "list", data := .seq ([] : List Value).toArray }).get? s.heap.objs.size = some { cls := .type "list_iterator", data := .fields #[.ref l, .int 0 0] } :=
    Heap.get?_push_of_some _ (Heap.get?_push_size _ rfl)
  have hS : ((s.heap.push { cls := .type "list_iterator", data := .fields #[.ref l, .int 0 0] }).push { cls := .type "list", data := .seq ([] : List Value).toArray }).get? (s.heap.objs.size + 1) = some { cls := .type "list", data := .seq ([] : List Value).toArray } := by
    have := Heap.get?_push_size (s.heap.push { cls := .type "list_iterator", data := .fields #[.ref l, .int 0 0] }) (o := { cls := .type "list", data := .seq ([] : List Value).toArray }) rfl
    rw [hz] at this; exact this
  have old : ∀ b o, s.heap.get? b = some o → ((s.heap.push { cls := .type "list_iterator", data := .fields #[.ref l, .int 0 0] }).push { cls := .type "list", data := .seq ([] : List Value).toArray }).get? b = some o :=
    fun b o e => Heap.get?_push_of_some _ (Heap.get?_push_of_some _ e)
  rw [hz]
  generalize hh1 : (s.heap.push { cls := .type "list_iterator", data := .fields #[.ref l, .int 0 0] }).push { cls := .type "list", data := .seq ([] : List Value).toArray } = h1 at hI hS old ⊢
  have low : ∀ b o, s.heap.get? b = some o → b < s.heap.objs.size := fun b o e => Heap.lt_size e
  generalize s.heap.objs.size = I at hll hI hS low ⊢
  obtain ⟨S, hSe⟩ : ∃ S, S = I + 1 := ⟨_, rfl⟩
  rw [← hSe] at hS ⊢
  have hlI : l ≠ I := Nat.ne_of_lt hll
  have hSI : S ≠ I := by rw [hSe]; exact Nat.succ_ne_self I
  have hlS : l ≠ S := by rw [hSe]; exact Nat.ne_of_lt (Nat.lt_succ_of_lt hll)
  refine wpAny_pure ⟨plainId_quiet F.plain_min_loop _, ?_⟩
  -- the first one
  refine codeAny_builtin F.entry_min_loop ?_
  rw [Around.under_plainId F.plain_min_loop _]
  show wpAny _ A.in1 (seqItems? (.ref S) >>= _) _ _ _
  refine wpAny_bind (wpAny_seqItems hS rfl ?_)
  show wpAny _ A.in1 (tryCatch (pyNext (.ref I)) _ >>= _) _ _ _
  have hl1 : h1.IsList l items := let ⟨o, e, r⟩ := hl; ⟨o, old _ _ e, r⟩
  refine wpAny_bind (wpAny_tryCatch (wpAny_pyNext_list_item (i := 0) ⟨_, hI, rfl, rfl⟩ hl1 (x := items[0]) (by simp [h0]) fun h' hit' hsb => ?_))
  have hS' := (hsb.2 S hSI).trans hS
  show wpAny _ A.in1 (updateSeq S (fun _ => #[items[0], items[0]]) >>= _) _ _ _
  refine wpAny_bind ?_
  refine wpAny_updateSeq hS' rfl ?_
  rw [hname]
  have hsb : Heap.SameBut I h1 h' := hsb
  have low : ∀ b o, s.heap.get? b = some o → b ≠ I ∧ b ≠ S := fun b o e => ⟨Nat.ne_of_lt (low b o e), by rw [hSe]; exact Nat.ne_of_lt (Nat.lt_succ_of_lt (low b o e))⟩
  have hl2 : (h'.update S (Obj.mapSeq fun _ => #[items[0], items[0]])).IsList l items := let ⟨o, e, r⟩ := hl1; ⟨o, (Heap.get?_update_other _ _ (Ne.symm hlS)).trans ((hsb.2 l hlI).trans e), r⟩
  have hit2 : (h'.update S (Obj.mapSeq fun _ => #[items[0], items[0]])).IsListIter I l (0 + 1) := let ⟨o, e, r⟩ := hit'; ⟨o, (Heap.get?_update_other _ _ hSI).trans e, r⟩
  have k2 : KeptBut I S h1 (h'.update S (Obj.mapSeq fun _ => #[items[0], items[0]])) := fun b o n1 n2 e => (Heap.get?_update_other _ _ (Ne.symm n2)).trans ((hsb.2 b n1).trans e)
  refine wpAny_pure ⟨plainId_quiet F.plain_min_loop _, min_loopL (A := A) hh hlI hSI hlS bt _ hl2 (fun s' i j hi hj hk => ?_) _ 0 _ items[0] _ rfl h0 hit2 (by simp [argBest, h0]) (fun b o _ _ e => e) (Heap.get?_update_self _ hS' rfl) fun v h'' hv hk => ?_⟩
  · refine fun prog w E Q hq => ?_
    have := cmp s' i j hi hj (fun b o e => let ⟨n1, n2⟩ := low b o e; hk b o n1 n2 (k2 b o n1 n2 (old b o e))) prog w E Q hq
    exact wpAny_of_in1 this
  · exact hQ v h'' hv fun b o e => let ⟨n1, n2⟩ := low b o e; hk b o n1 n2 (k2 b o n1 n2 (old b o e))
theorem call_max_list (hh : A.handled = none) {l : Addr} {items : Array Value} {Q : Value → Shared → Prop} (hl : s.heap.IsList l items) (h0 : 0 < items.size) (bt : Nat → Nat → Bool)
    (cmp : ∀ (s' : Shared) i j (hi : i < items.size) (hj : j < items.size), (∀ b o, s.heap.get? b = some o → s'.heap.get? b = some o) → RcB .Gt A.in1.in1 s' items[i] items[j] (bt i j))
    (hQ : ∀ v h', items[argBest bt (items.size - 1)]? = some v → (∀ b o, s.heap.get? b = some o → h'.get? b = some o) → Q v { s with heap := h' }) :
    wpAny (model prog w) A (call (.builtin "max") [.ref l]) Q E s := by
  have hname : (toString "max" ++ toString ".loop" : String) = "max.loop" := by decide
  refine call_function_tree F.kind_max F.plain_max F.entry_max (F.args_max1 _) ?_
  show wpAny _ A.in1 (Builtin.Builtins.bindParams "max" ["key", "default"] 0 ⟨[], []⟩ >>= _) _ _ s
  refine wpAny_bind (wpAny_of_eq (show Builtin.Builtins.bindParams "max" ["key", "default"] 0 ⟨[], []⟩ = pure [none, none] from rfl) ?_)
  refine wpAny_bind (wpAny_pure ?_)
  refine wpAny_bind (wpAny_pyIter_list hl ?_)
  refine wpAny_bind (wpAny_newObj_type ?_)
  rw [hname]
  have hll : l < s.heap.objs.size := let ⟨o, e, _⟩ := hl; Heap.lt_size e
  have hz : (s.heap.push { cls := .type "list_iterator", data := .fields #[.ref l, .int 0 0] }).objs.size = s.heap.objs.size + 1 := Heap.size_push ..
  have hI : ((s.heap.push { cls := .type "list_iterator", data := .fields #[.ref l, .int 0 0] }).push { cls := .type "list", data := .seq ([] : List Value).toArray }).get? s.heap.objs.size = some { cls := .type "list_iterator", data := .fields #[.ref l, .int 0 0] } :=
    Heap.get?_push_of_some _ (Heap.get?_push_size _ rfl)
  have hS : ((s.heap.push { cls := .type "list_iterator", data := .fields #[.ref l, .int 0 0] }).push { cls := .type "list", data := .seq ([] : List Value).toArray }).get? (s.heap.objs.size + 1) = some { cls := .type "list", data := .seq ([] : List Value).toArray } := by
    have := Heap.get?_push_size (s.heap.push { cls := .type "list_iterator", data := .fields #[.ref l, .int 0 0] }) (o := { cls := .type "list", data := .seq ([] : List Value).toArray }) rfl
    rw [hz] at this; exact this
  have old : ∀ b o, s.heap.get? b = some o → ((s.heap.push { cls := .type "list_iterator", data := .fields #[.ref l, .int 0 0] }).push { cls := .type "list", data := .seq ([] : List Value).toArray }).get? b = some o :=
    fun b o e => Heap.get?_push_of_some _ (Heap.get?_push_of_some _ e)
  rw [hz]
  generalize hh1 : (s.heap.push { cls := .type "list_iterator", data := .fields #[.ref l, .int 0 0] }).push { cls := .type "list", data := .seq ([] : List Value).toArray } = h1 at hI hS old ⊢
  have low : ∀ b o, s.heap.get? b = some o → b < s.heap.objs.size := fun b o e => Heap.lt_size e
  generalize s.heap.objs.size = I at hll hI hS low ⊢
  obtain ⟨S, hSe⟩ : ∃ S, S = I + 1 := ⟨_, rfl⟩
  rw [← hSe] at hS ⊢
  have hlI : l ≠ I := Nat.ne_of_lt hll
  have hSI : S ≠ I := by rw [hSe]; exact Nat.succ_ne_self I
  have hlS : l ≠ S := by rw [hSe]; exact Nat.ne_of_lt (Nat.lt_succ_of_lt hll)
  refine wpAny_pure ⟨plainId_quiet F.plain_max_loop _, ?_⟩
  -- the first one
  refine codeAny_builtin F.entry_max_loop ?_
  rw [Around.under_plainId F.plain_max_loop _]
  show wpAny _ A.in1 (seqItems? (.ref S) >>= _) _ _ _
  refine wpAny_bind (wpAny_seqItems hS rfl ?_)
  show wpAny _ A.in1 (tryCatch (pyNext (.ref I)) _ >>= _) _ _ _
  have hl1 : h1.IsList l items := let ⟨o, e, r⟩ := hl; ⟨o, old _ _ e, r⟩
  refine wpAny_bind (wpAny_tryCatch (wpAny_pyNext_list_item (i := 0) ⟨_, hI, rfl, rfl⟩ hl1 (x := items[0]) (by simp [h0]) fun h' hit' hsb => ?_))
  have hS' := (hsb.2 S hSI).trans hS
  show wpAny _ A.in1 (updateSeq S (fun _ => #[items[0], items[0]]) >>= _) _ _ _
  refine wpAny_bind ?_
  refine wpAny_updateSeq hS' rfl ?_
  rw [hname]
  have hsb : Heap.SameBut I h1 h' := hsb
  have low : ∀ b o, s.heap.get? b = some o → b ≠ I ∧ b ≠ S := fun b o e => ⟨Nat.ne_of_lt (low b o e), by rw [hSe]; exact Nat.ne_of_lt (Nat.lt_succ_of_lt (low b o e))⟩
  have hl2 : (h'.update S (Obj.mapSeq fun _ => #[items[0], items[0]])).IsList l items := let ⟨o, e, r⟩ := hl1; ⟨o, (Heap.get?_update_other _ _ (Ne.symm hlS)).trans ((hsb.2 l hlI).trans e), r⟩
  have hit2 : (h'.update S (Obj.mapSeq fun _ => #[items[0], items[0]])).IsListIter I l (0 + 1) := let ⟨o, e, r⟩ := hit'; ⟨o, (Heap.get?_update_other _ _ hSI).trans e, r⟩
  have k2 : KeptBut I S h1 (h'.update S (Obj.mapSeq fun _ => #[items[0], items[0]])) := fun b o n1 n2 e => (Heap.get?_update_other _ _ (Ne.symm n2)).trans ((hsb.2 b n1).trans e)
  refine wpAny_pure ⟨plainId_quiet F.plain_max_loop _, max_loopL (A := A) hh hlI hSI hlS bt _ hl2 (fun s' i j hi hj hk => ?_) _ 0 _ items[0] _ rfl h0 hit2 (by simp [argBest, h0]) (fun b o _ _ e => e) (Heap.get?_update_self _ hS' rfl) fun v h'' hv hk => ?_⟩
  · refine fun prog w E Q hq => ?_
    have := cmp s' i j hi hj (fun b o e => let ⟨n1, n2⟩ := low b o e; hk b o n1 n2 (k2 b o n1 n2 (old b o e))) prog w E Q hq
    exact wpAny_of_in1 this
  · exact hQ v h'' hv fun b o e => let ⟨n1, n2⟩ := low b o e; hk b o n1 n2 (k2 b o n1 n2 (old b o e))
end
/-- the first of the least, and of the greatest -/
noncomputable def bestL (op : CmpOp) (ls : List (List (List Nat))) : List (List Nat) := match ls with
  | [] => []
  | a :: r => r.foldl (fun b x => if opS op x b then x else b) a
noncomputable def btOf (op : CmpOp) (ls : List (List (List Nat))) (i j : Nat) : Bool := match ls[i]?, ls[j]? with
  | some a, some b => opS op a b
  | _, _ => false
theorem argBest_get (op : CmpOp) (a : List (List Nat)) (r : List (List (List Nat))) : ∀ j, j ≤ r.length → (a :: r)[argBest (btOf op (a :: r)) j]? = some ((r.take j).foldl (fun b x => if opS op x b then x else b) a)
  | 0, _ => by simp [argBest]
  | j + 1, h => by
    have ih := argBest_get op a r j (by (clear a op; (first | lia | omega)))
    have hj : r[j]? = some r[j] := by simp
    have e1 : btOf op (a :: r) (j + 1) (argBest (btOf op (a :: r)) j) = opS op r[j] ((r.take j).foldl (fun b x => if opS op x b then x else b) a) := by
      have e0 : ∀ i k x y, (a :: r)[i]? = some x → (a :: r)[k]? = some y → btOf op (a :: r) i k = opS op x y := fun i k x y h1 h2 => by unfold btOf; rw [h1, h2]
      exact e0 _ _ _ _ (by simp) ih
    rw [argBest, e1, List.take_add_one, hj, List.foldl_append]
    simp only [Option.toList_some, List.foldl_cons, List.foldl_nil]
    split
    · simp
    · exact ih
theorem bestL_get (op : CmpOp) {ls : List (List (List Nat))} (h : 0 < ls.length) : ls[argBest (btOf op ls) (ls.length - 1)]? = some (bestL op ls) := by
  cases ls with
  | nil => simp at h
  | cons a r =>
    have := argBest_get op a r r.length (Nat.le_refl _)
    rw [List.take_of_length_le (Nat.le_refl _)] at this
    simpa [bestL] using this
section
variable {C : Cx} {X : XP} {σ : St} {Q : V → St → Prop}
theorem call_minL {o : Bool} {v : V} {ls : List (List (List Nat))} (hh : C.A.handled = none) (k : IsL σ v (ls.map fun l => .lst (l.map (.txt o)))) (h0 : 0 < ls.length) (h : Q (.lst ((bestL .Lt ls).map (.txt o))) σ) : CallV C (.builtin "min") [v] Q X σ := by
  refine CallV.toks fun z₀ zs z s xs hz hR r => ?_
  have rq := RepL.inv r; clear r; obtain ⟨_, _, rfl, r, t⟩ := rq
  cases t.inv0; clear t
  obtain ⟨a, items, n, rfl, p, q⟩ := k.obj r (Z.le_refl _) hR
  have hlen := q.length
  rw [List.length_map] at hlen
  have hu := C.hunits
  have hi1 := in1_units C.A
  have hi2 := in1_units C.A.in1
  refine call_min_list hh ⟨_, p, rfl, n, rfl⟩ (by simp; (clear hi2 hi1 hu q p r n a hR hz s z zs z₀ h k hh v o; (first | lia | omega))) (btOf .Lt ls) (fun s' i j hi hj hk => ?_) fun v h' hv hk => ?_
  · have hi' : i < ls.length := by simpa [hlen] using hi
    have hj' : j < ls.length := by simpa [hlen] using hj
    obtain ⟨x, hx, rx⟩ := q.get (i := i) (v := .lst (ls[i].map (.txt o))) (by simp [hi'])
    obtain ⟨y, hy, ry⟩ := q.get (i := j) (v := .lst (ls[j].map (.txt o))) (by simp [hj'])
    have ex : items.toArray[i] = x := by obtain ⟨_, e⟩ := List.getElem?_eq_some_iff.mp hx; simpa using e
    have ey : items.toArray[j] = y := by obtain ⟨_, e⟩ := List.getElem?_eq_some_iff.mp hy; simpa using e
    have eb : btOf .Lt ls i j = opS .Lt ls[i] ls[j] := by simp [btOf, hi', hj']
    rw [ex, ey, eb]
    have rxq := rx.e; clear rx; obtain ⟨_, _, _, rfl, e1, r1⟩ := rxq
    have ryq := ry.e; clear ry; obtain ⟨_, _, _, rfl, e2, r2⟩ := ryq
    exact RcB.texts .Lt (by simp) ⟨_, hk _ _ (hR.rh.hz _ _ e1), rfl, _, rfl⟩ ⟨_, hk _ _ (hR.rh.hz _ _ e2), rfl, _, rfl⟩ r1 r2 (by show _ < 9900; (clear ey hy r2 e2 ex hx r1 e1 eb hj' hi' hk hj hi s' hlen q p r n a hR hz s z zs z₀ h h0 k hh v o j i items ls; (first | lia | omega)))
  · have e := bestL_get .Lt h0
    have e2 : (ls.map fun l => V.lst (l.map (.txt o)))[argBest (btOf .Lt ls) (ls.length - 1)]? = some (.lst ((bestL .Lt ls).map (.txt o))) := by rw [List.getElem?_map, e]; rfl
    obtain ⟨x, hx, rx⟩ := q.get e2
    have : v = x := by
      rw [List.size_toArray, hlen] at hv
      have hv : items[argBest (btOf .Lt ls) (ls.length - 1)]? = some v := by simpa using hv
      rw [hx] at hv; exact (Option.some.inj hv).symm
    rw [this]
    exact CallV.grown hR (t := s.toks) hk rx h
theorem call_maxL {o : Bool} {v : V} {ls : List (List (List Nat))} (hh : C.A.handled = none) (k : IsL σ v (ls.map fun l => .lst (l.map (.txt o)))) (h0 : 0 < ls.length) (h : Q (.lst ((bestL .Gt ls).map (.txt o))) σ) : CallV C (.builtin "max") [v] Q X σ := by
  refine CallV.toks fun z₀ zs z s xs hz hR r => ?_
  have rq := RepL.inv r; clear r; obtain ⟨_, _, rfl, r, t⟩ := rq
  cases t.inv0; clear t
  obtain ⟨a, items, n, rfl, p, q⟩ := k.obj r (Z.le_refl _) hR
  have hlen := q.length
  rw [List.length_map] at hlen
  have hu := C.hunits
  have hi1 := in1_units C.A
  have hi2 := in1_units C.A.in1
  refine call_max_list hh ⟨_, p, rfl, n, rfl⟩ (by simp; (clear hi2 hi1 hu q p r n a hR hz s z zs z₀ h k hh v o; (first | lia | omega))) (btOf .Gt ls) (fun s' i j hi hj hk => ?_) fun v h' hv hk => ?_
  · have hi' : i < ls.length := by simpa [hlen] using hi
    have hj' : j < ls.length := by simpa [hlen] using hj
    obtain ⟨x, hx, rx⟩ := q.get (i := i) (v := .lst (ls[i].map (.txt o))) (by simp [hi'])
    obtain ⟨y, hy, ry⟩ := q.get (i := j) (v := .lst (ls[j].map (.txt o))) (by simp [hj'])
    have ex : items.toArray[i] = x := by obtain ⟨_, e⟩ := List.getElem?_eq_some_iff.mp hx; simpa using e
    have ey : items.toArray[j] = y := by obtain ⟨_, e⟩ := List.getElem?_eq_some_iff.mp hy; simpa using e
    have eb : btOf .Gt ls i j = opS .Gt ls[i] ls[j] := by simp [btOf, hi', hj']
    rw [ex, ey, eb]
    have rxq := rx.e; clear rx; obtain ⟨_, _, _, rfl, e1, r1⟩ := rxq
    have ryq := ry.e; clear ry; obtain ⟨_, _, _, rfl, e2, r2⟩ := ryq
    exact RcB.texts .Gt (by simp) ⟨_, hk _ _ (hR.rh.hz _ _ e1), rfl, _, rfl⟩ ⟨_, hk _ _ (hR.rh.hz _ _ e2), rfl, _, rfl⟩ r1 r2 (by show _ < 9900; (clear ey hy r2 e2 ex hx r1 e1 eb hj' hi' hk hj hi s' hlen q p r n a hR hz s z zs z₀ h h0 k hh v o j i items ls; (first | lia | omega)))
  · have e := bestL_get .Gt h0
    have e2 : (ls.map fun l => V.lst (l.map (.txt o)))[argBest (btOf .Gt ls) (ls.length - 1)]? = some (.lst ((bestL .Gt ls).map (.txt o))) := by rw [List.getElem?_map, e]; rfl
    obtain ⟨x, hx, rx⟩ := q.get e2
    have : v = x := by
      rw [List.size_toArray, hlen] at hv
      have hv : items[argBest (btOf .Gt ls) (ls.length - 1)]? = some v := by simpa using hv
      rw [hx] at hv; exact (Option.some.inj hv).symm
    rw [this]
    exact CallV.grown hR (t := s.toks) hk rx h
end
end PL

end
section
open PySem PySem.Calls PyProof.Rows
open AutoSeq1 (wpAny_loadPart')
set_option Elab.async false
set_option linter.unusedVariables false
set_option linter.unusedSimpArgs false
set_option linter.unusedSectionVars false
set_option maxRecDepth 100000
namespace PL
/-! map -/
namespace BF
theorem owner_map : Manifest.owners.lookup (String.ofList ['p', 'a', 'm'].reverse) = some Manifest.sig_map := by kernel_rfl
theorem mro_map : mroOf (.type "map") = pure [.type "map", .type "object"] := by rw [mroOf_type]; kernel_rfl
theorem lookup_map_new : typeLookup (.type "map") "__new__" = pure (some (.builtin "map.__new__")) := by rw [typeLookup_type, builtinLookup_eq_fast]; kernel_rfl
theorem slot_map_init : Slot "map" "__init__" "object.__init__" :=
  .of (owner := "object") (n := "__init__") (by rw [typeLookup_type, builtinLookup_eq_fast]; kernel_rfl) (by decide +kernel) (by decide +kernel) (by decide +kernel)
    (by first | exact .inl (by decide +kernel) | exact .inr (by decide +kernel)) (by rw [isSubtype_type]; kernel_rfl)
theorem called_map : TypeCalled "map" "map.__new__" "object.__init__" :=
  ⟨by decide +kernel, by decide +kernel, ⟨_, _, mro_map⟩, madeBy_type mro_map lookup_map_new (by decide +kernel), by decide +kernel, by rw [isSubtype_type]; kernel_rfl, slot_map_init⟩
theorem typeCall_map (a b : Value) : checkTypeCall "map" ⟨[a, b], []⟩ = pure () := by kernel_rfl
theorem newCall_map (a b : Value) : checkBuiltinCall "map.__new__" ⟨[.type "map", a, b], []⟩ = pure () := by kernel_rfl
theorem entry_map_new : entryFor table "map.__new__" = some Builtin.«map.__new__» := entryFor_of_tree (by kernel_rfl)
theorem args_object_init_3 (a b c : Value) : argsOk "object.__init__" ⟨[a, b, c], []⟩ := by
  unfold argsOk; rw [signature?_of (id := "object.__init__") (n := ['_', '_', 't', 'i', 'n', 'i', '_', '_']) (o := ['t', 'c', 'e', 'j', 'b', 'o']) (by kernel_rfl) PySem.F.owner_object]; kernel_rfl
theorem slot_map_iter : Slot "map" "__iter__" "map.__iter__" :=
  .of (owner := "map") (n := "__iter__") (by rw [typeLookup_type, builtinLookup_eq_fast]; kernel_rfl) (by decide +kernel) (by decide +kernel) (by decide +kernel)
    (by first | exact .inl (by decide +kernel) | exact .inr (by decide +kernel)) (by rw [isSubtype_type]; kernel_rfl)
theorem entry_map_iter : entryFor table "map.__iter__" = some Builtin.«dict_keyiterator.__iter__» :=
  entryFor_alias (id' := "dict_keyiterator.__iter__") (by rw [fastTable_eq_tree]; kernel_rfl) rfl (by decide +kernel) (by rw [fastTable_eq_tree]; kernel_rfl)
theorem args_map_iter (a : Value) : argsOk "map.__iter__" ⟨[a], []⟩ := by
  unfold argsOk; rw [signature?_of (id := "map.__iter__") (n := ['_', '_', 'r', 'e', 't', 'i', '_', '_']) (o := ['p', 'a', 'm']) (by kernel_rfl) owner_map]; kernel_rfl
theorem slot_map_next : Slot "map" "__next__" "map.__next__" :=
  .of (owner := "map") (n := "__next__") (by rw [typeLookup_type, builtinLookup_eq_fast]; kernel_rfl) (by decide +kernel) (by decide +kernel) (by decide +kernel)
    (by first | exact .inl (by decide +kernel) | exact .inr (by decide +kernel)) (by rw [isSubtype_type]; kernel_rfl)
theorem entry_map_next : entryFor table "map.__next__" = some Builtin.«map.__next__» := entryFor_of_tree (by kernel_rfl)
theorem args_map_next (a : Value) : argsOk "map.__next__" ⟨[a], []⟩ := by
  unfold argsOk; rw [signature?_of (id := "map.__next__") (n := ['_', '_', 't', 'x', 'e', 'n', '_', '_']) (o := ['p', 'a', 'm']) (by kernel_rfl) owner_map]; kernel_rfl
theorem map_no_len : typeLookup (.type "map") "__len__" = pure none := by rw [typeLookup_type, builtinLookup_eq_fast]; kernel_rfl
theorem map_no_hint : typeLookup (.type "map") "__length_hint__" = pure none := by rw [typeLookup_type, builtinLookup_eq_fast]; kernel_rfl
theorem sub_map : isSubtype (.type "map") (.type "map") = pure true := by rw [isSubtype_type]; kernel_rfl
end BF
noncomputable abbrev mapO (t : Addr) (f : Value) : Obj := { cls := .type "map", dict := none, data := .fields #[.ref t, f], slots := #[] }
section
variable {prog : Program} {w : World} {A : Around} {E : Value → Shared → Prop} {s : Shared}
theorem meets_map_new (l : Addr) (f : Value) (items : Array Value) (n : Nat) (dct : Option Addr) (sl : Array (Option Value)) :
    Meets (Builtin.«map.__new__» ⟨[.type "map", f, .ref l], []⟩) (fun _ R s => s.heap.get? l = some { cls := .type "list", dict := dct, data := .seq items n, slots := sl } ∧
      R (.ok (.ret (.ref (s.heap.objs.size + 2))))
        { s with heap := ((s.heap.push { cls := .type "list_iterator", data := .fields #[.ref l, .int 0 0] }).push (tupO [.ref s.heap.objs.size] 0)).push (mapO (s.heap.objs.size + 1) f) }) :=
  .of_wp fun prog w A R s h => by
    obtain ⟨hp, g, d, tk, os⟩ := s; obtain ⟨hl, h⟩ := h
    have hsub := BF.sub_map
    have hL : Heap.IsList (Shared.heap ⟨hp, g, d, tk, os⟩) l items := ⟨_, hl, rfl, n, rfl⟩
    wp_walk using wpAny_loadPart' hl, wpAny_pyIter_list hL
    refine ⟨_, rfl, ?_⟩
    simpa [Heap.size_push] using h
theorem call_map_list {l : Addr} {f : Value} {items : List Value} {n : Nat} {Q : Value → Shared → Prop} (hl : s.heap.get? l = some (lstO items n))
    (h : ∀ h', h'.get? s.heap.objs.size = some { cls := .type "list_iterator", data := .fields #[.ref l, .int 0 0] } → h'.get? (s.heap.objs.size + 1) = some (tupO [.ref s.heap.objs.size] 0) → h'.get? (s.heap.objs.size + 2) = some (mapO (s.heap.objs.size + 1) f) →
      (∀ b o, s.heap.get? b = some o → h'.get? b = some o) → Q (.ref (s.heap.objs.size + 2)) { s with heap := h' }) :
    wpAny (model prog w) A (call (.type "map") [f, .ref l]) Q E s := by
  refine callType_new BF.called_map (by decide) (BF.typeCall_map _ _) (BF.newCall_map _ _) (fun obj => BF.args_object_init_3 obj _ _) BF.entry_map_new (meets_map_new l f items.toArray n none #[]) ⟨hl, ?_⟩
  have z1 : (s.heap.push { cls := .type "list_iterator", data := .fields #[.ref l, .int 0 0] }).objs.size = s.heap.objs.size + 1 := Heap.size_push ..
  have z2 : ((s.heap.push { cls := .type "list_iterator", data := .fields #[.ref l, .int 0 0] }).push (tupO [.ref s.heap.objs.size] 0)).objs.size = s.heap.objs.size + 2 := by rw [Heap.size_push, z1]
  have e1 : (((s.heap.push { cls := .type "list_iterator", data := .fields #[.ref l, .int 0 0] }).push (tupO [.ref s.heap.objs.size] 0)).push (mapO (s.heap.objs.size + 1) f)).get? s.heap.objs.size = some { cls := .type "list_iterator", data := .fields #[.ref l, .int 0 0] } :=
    Heap.get?_push_of_some _ (Heap.get?_push_of_some _ (Heap.get?_push_size _ rfl))
  have e2 : (((s.heap.push { cls := .type "list_iterator", data := .fields #[.ref l, .int 0 0] }).push (tupO [.ref s.heap.objs.size] 0)).push (mapO (s.heap.objs.size + 1) f)).get? (s.heap.objs.size + 1) = some (tupO [.ref s.heap.objs.size] 0) := by
    refine Heap.get?_push_of_some _ ?_
    have := Heap.get?_push_size (s.heap.push { cls := .type "list_iterator", data := .fields #[.ref l, .int 0 0] }) (o := tupO [.ref s.heap.objs.size] 0) rfl
    rw [z1] at this; exact this
  have e3 : (((s.heap.push { cls := .type "list_iterator", data := .fields #[.ref l, .int 0 0] }).push (tupO [.ref s.heap.objs.size] 0)).push (mapO (s.heap.objs.size + 1) f)).get? (s.heap.objs.size + 2) = some (mapO (s.heap.objs.size + 1) f) := by
    have := Heap.get?_push_size ((s.heap.push { cls := .type "list_iterator", data := .fields #[.ref l, .int 0 0] }).push (tupO [.ref s.heap.objs.size] 0)) (o := mapO (s.heap.objs.size + 1) f) rfl
    rw [z2] at this; exact this
  exact ⟨⟨_, e3, rfl⟩, h _ e1 e2 e3 fun b o e => Heap.get?_push_of_some _ (Heap.get?_push_of_some _ (Heap.get?_push_of_some _ e))⟩
theorem wpAny_pyIter_map {m t : Addr} {f : Value} {Q : Value → Shared → Prop} (he : s.heap.get? m = some (mapO t f)) (h : Q (.ref m) s) : wpAny (model prog w) A (pyIter (.ref m)) Q E s := by
  have hT : s.TypeIs (.ref m) "map" := ⟨_, he, rfl⟩
  refine wpAny_pyIter_slot hT BF.slot_map_iter (wpAny_call_entry BF.slot_map_iter hT BF.entry_map_iter ?_ (BF.args_map_iter _))
  show wpAny _ _ (ret (.ref m)) _ _ s
  exact wpAny_pure ⟨_, rfl, "map", _, hT, BF.slot_map_next.lookup, h⟩
/-- one draw from a map: the iterator gives, the function answers -/
theorem pyNext_map_item {m t I l : Addr} {f x : Value} {i k : Nat} {items : Array Value} {Q : Option Value → Shared → Prop} (hm : s.heap.get? m = some (mapO t f)) (ht : s.heap.get? t = some (tupO [.ref I] k)) (hI : s.heap.IsListIter I l i) (hl : s.heap.IsList l items) (hx : items[i]? = some x) (hmI : m ≠ I)
    (h : ∀ h', h'.IsListIter I l (i + 1) → Heap.SameBut I s.heap h' → wpAny (model prog w) A.in1 (call f [x]) (fun v s' => Q (some v) s')
      (fun e s' => wpAny (model prog w) A (isInstance e (.type "StopIteration")) (fun b s2 => if b then Q none s2 else E e s2) E s') { s with heap := h' }) :
    wpAny (model prog w) A (pyNext (.ref m)) Q E s := by
  have hT : s.TypeIs (.ref m) "map" := ⟨_, hm, rfl⟩
  unfold pyNext
  refine wpAny_bind (wpAny_attempt (wpAny_callSpecial?_slot (name := Str.ofString "__next__") hT BF.slot_map_next (wpAny_call_entry BF.slot_map_next hT BF.entry_map_next ?_ (BF.args_map_next _))))
  show wpAny _ _ (field (.ref m) 0 >>= _) _ _ s
  refine wpAny_bind (wpAny_field hm rfl (x := .ref t) rfl ?_)
  show wpAny _ _ (seqItems? (.ref t) >>= _) _ _ s
  refine wpAny_bind (wpAny_seqItems ht rfl ?_)
  show wpAny _ _ (forIn ([Value.ref I].toArray) (#[] : Array Value) _ >>= _) _ _ s
  simp only [List.forIn_toArray, List.forIn_cons, List.forIn_nil]
  refine wpAny_bind (wpAny_bind (wpAny_bind (wpAny_holding (wpAny_nextOf_list_item hI hl hx fun h' hit hsb => ?_))))
  refine wpAny_pure (wpAny_pure ?_)
  have hm' : h'.get? m = some (mapO t f) := (hsb.2 m hmI).trans hm
  refine wpAny_bind (wpAny_field hm' rfl (x := f) rfl ?_)
  refine wpAny_bind (wpAny_holding ?_)
  refine wpAny_mono (h h' hit hsb) (fun v s' q => ?_) fun e s' q => ?_
  · exact wpAny_bind (wpAny_letGo (wpAny_pure ⟨_, rfl, wpAny_pure q⟩))
  · refine wpAny_bind (wpAny_mono q (fun b s2 q2 => ?_) fun _ _ x => x)
    cases b with
    | true => exact wpAny_pure q2
    | false => exact wpAny_throw q2
theorem pyNext_map_end {m t I l : Addr} {f : Value} {i k : Nat} {items : Array Value} {Q : Option Value → Shared → Prop} (hh : A.handled = none) (hm : s.heap.get? m = some (mapO t f)) (ht : s.heap.get? t = some (tupO [.ref I] k)) (hI : s.heap.IsListIter I l i) (hl : s.heap.IsList l items) (hx : items[i]? = none)
    (h : ∀ h', Heap.ExtBut I s.heap h' → Q none { s with heap := h' }) : wpAny (model prog w) A (pyNext (.ref m)) Q E s := by
  have hT : s.TypeIs (.ref m) "map" := ⟨_, hm, rfl⟩
  unfold pyNext
  refine wpAny_bind (wpAny_attempt (wpAny_callSpecial?_slot (name := Str.ofString "__next__") hT BF.slot_map_next (wpAny_call_entry BF.slot_map_next hT BF.entry_map_next ?_ (BF.args_map_next _))))
  show wpAny _ _ (field (.ref m) 0 >>= _) _ _ s
  refine wpAny_bind (wpAny_field hm rfl (x := .ref t) rfl ?_)
  show wpAny _ _ (seqItems? (.ref t) >>= _) _ _ s
  refine wpAny_bind (wpAny_seqItems ht rfl ?_)
  show wpAny _ _ (forIn ([Value.ref I].toArray) (#[] : Array Value) _ >>= _) _ _ s
  simp only [List.forIn_toArray, List.forIn_cons, List.forIn_nil]
  refine wpAny_bind (wpAny_bind (wpAny_bind (wpAny_holding (wpAny_nextOf_list_end (A := A.in1) hh hI hl hx fun h' e hex he => ?_))))
  obtain ⟨o, e1, e2⟩ := he
  refine wpAny_bind (wpAny_isInstance (T := "StopIteration") ⟨o, e1, e2⟩ PySem.isSubtype_stop ?_)
  exact wpAny_pure (h h' hex)
end
section
variable {prog : Program} {w : World} {A : Around} {R : Result → Shared → Prop}
theorem extend_loop {S m : Addr} {n : Nat} (hn : n ≤ 16777216) (res : Value) (Inv : Nat → Array Value → Shared → Prop)
    (turn : ∀ i acc c s, i < n → Inv i acc s → s.heap.get? S = some { cls := .type "list", dict := none, data := .seq acc c, slots := #[] } → wpAny (model prog w) A.in1 (pyNext (.ref m)) (fun r s' => ∃ v c', r = some v ∧ s'.heap.get? S = some { cls := .type "list", dict := none, data := .seq acc c', slots := #[] } ∧
      Inv (i + 1) (acc.push v) { s' with heap := s'.heap.update S (Obj.mapSeq (·.push v)) }) (fun e s' => R (.error e) s') s)
    (fin : ∀ acc c s, Inv n acc s → s.heap.get? S = some { cls := .type "list", dict := none, data := .seq acc c, slots := #[] } → wpAny (model prog w) A.in1 (pyNext (.ref m)) (fun r s' => r = none ∧ R (.ok (.ret res)) s') (fun e s' => R (.error e) s') s) :
    ∀ (k i : Nat) (s : Shared) (acc : Array Value) (c : Nat), n - i = k → i ≤ n → acc.size = i → Inv i acc s → s.heap.get? S = some { cls := .type "list", dict := none, data := .seq acc c, slots := #[] } →
    codeAny (model prog w) A (.builtin "list.extend.loop" ⟨[.ref S, .ref m, res], []⟩) R s := by
  intro k
  induction k with
  | zero =>
    intro i s acc c hk hi hsz inv hS
    have hin : i = n := by (clear hS inv c s fin turn Inv res hn m S hsz acc; omega)
    subst hin
    refine codeAny_builtin F.entry_extend_loop ?_
    rw [Around.under_plainId F.plain_extend_loop _]
    show wpAny _ A.in1 (pyNext (.ref m) >>= _) _ _ s
    refine wpAny_bind (wpAny_mono (fin acc c s inv hS) ?_ fun _ _ x => x)
    rintro r s' ⟨rfl, q⟩
    exact wpAny_pure q
  | succ k ih =>
    intro i s acc c hk hi hsz inv hS
    refine codeAny_builtin F.entry_extend_loop ?_
    rw [Around.under_plainId F.plain_extend_loop _]
    show wpAny _ A.in1 (pyNext (.ref m) >>= _) _ _ s
    refine wpAny_bind (wpAny_mono (turn i acc c s (by (clear hS inv c s ih fin turn Inv res hn m S hsz hi acc; omega)) inv hS) ?_ fun _ _ x => x)
    rintro r s' ⟨v, c', rfl, hS', q⟩
    show wpAny _ A.in1 (updateSeq S (·.push v) >>= _) _ _ _
    have hle := sizeLine_eq
    refine wpAny_bind ?_
    refine wpAny_updateSeq hS' rfl (wpAny_pure ⟨plainId_quiet F.plain_extend_loop _, ih (i + 1) _ (acc.push v) _ (by (clear hle q hS' c' v s' hS inv c s ih fin turn Inv res hn m S hsz hi acc; omega)) (by (clear hle q hS' c' v s' hS inv c s ih fin turn Inv res hn m S hsz hi acc; omega)) (by simp [hsz]) q (Heap.get?_update_self _ hS' rfl)⟩) (by rw [hsz]; (clear q hS' c' v s' hS inv hk c s ih fin turn Inv res m S k hsz acc; omega)) (by show (acc.push v).size ≤ sizeLine + 1; rw [Array.size_push, hsz]; (clear q hS' c' v s' hS inv hk c s ih fin turn Inv res m S k hsz acc; omega))
end
section
variable {prog : Program} {w : World} {A : Around} {E : Value → Shared → Prop} {s : Shared}
theorem collect_map {m t : Addr} {f : Value} {Q : List Value → Shared → Prop} (hm : s.heap.get? m = some (mapO t f))
    (h : ∀ h1 c0, (∀ b o, s.heap.get? b = some o → h1.get? b = some o) → h1.get? s.heap.objs.size = some { cls := .type "list", dict := none, data := .seq #[] c0, slots := #[] } →
      codeAny (model prog w) A (.builtin "list.extend.loop" ⟨[.ref s.heap.objs.size, .ref m, .ref s.heap.objs.size], []⟩)
        (fun r s' => match r with | .ok (.ret v) => ∃ acc c, v = .ref s.heap.objs.size ∧ s'.heap.get? s.heap.objs.size = some { cls := .type "list", dict := none, data := .seq acc c, slots := #[] } ∧ Q acc.toList s' | .ok _ => False | .error e => E e s') { s with heap := h1 }) :
    wpAny (model prog w) A (collect (.ref m)) Q E s := by
  have hSm : s.heap.objs.size ≠ m := Nat.ne_of_gt (Heap.lt_size hm)
  unfold collect
  refine wpAny_bind (wpAny_runValue (codeAny_builtin F.entry_proto_collect ?_))
  rw [Around.under_plainId F.plain_proto_collect _]
  show wpAny _ A.in1 (newList [] >>= fun l => again (.builtin "list.__iadd__" ⟨[l, .ref m], []⟩)) _ _ s
  refine wpAny_bind (wpAny_newObj_type ?_)
  refine wpAny_pure ⟨plainId_quiet F.plain_list_iadd _, codeAny_builtin F.entry_list_iadd ?_⟩
  rw [Around.under_plainId F.plain_list_iadd _]
  have hm₁ : (s.heap.push { cls := .type "list", data := .seq ([] : List Value).toArray }).get? m = some (mapO t f) := Heap.get?_push_of_some _ hm
  have hT : Shared.TypeIs { s with heap := s.heap.push { cls := .type "list", data := .seq ([] : List Value).toArray } } (.ref m) "map" := ⟨_, hm₁, rfl⟩
  show wpAny _ A.in1 (Builtin.List.listExtendWith (.ref s.heap.objs.size) (.ref m) (.ref s.heap.objs.size)) _ _ _
  unfold Builtin.List.listExtendWith
  refine wpAny_bind (wpAny_typeOf hT ?_)
  have h1 : Builtin.List.listSameRef (.ref s.heap.objs.size) (.ref m) = false := by simp [Builtin.List.listSameRef, hSm]
  have h2 : (Value.type "map" == Value.type "list") = false := by decide
  have h3 : (Value.type "map" == Value.type "tuple") = false := by decide
  simp only [h1, h2, h3, Bool.or_false, Bool.false_eq_true, if_false]
  refine wpAny_bind (wpAny_pyIter_map hm₁ ?_)
  refine wpAny_bind (wpAny_holding ?_)
  unfold Builtin.List.listLengthHint
  refine wpAny_bind (wpAny_specialOf hT BF.map_no_len ?_)
  show wpAny _ A.in1 (specialOf (Value.ref m) (Str.ofString "__length_hint__") >>= _) _ _ _
  refine wpAny_bind (wpAny_specialOf hT BF.map_no_hint ?_)
  refine wpAny_pure ?_
  show wpAny _ A.in1 (rule "list.extend.makes-room" >>= fun _ => Builtin.List.listTouch (.ref s.heap.objs.size) >>= fun _ =>
    again (.builtin "list.extend.loop" ⟨[.ref s.heap.objs.size, .ref m, .ref s.heap.objs.size], []⟩)) _ _ _
  refine wpAny_bind (wpAny_rule ?_)
  have hS₁ : (s.heap.push { cls := .type "list", data := .seq ([] : List Value).toArray }).get? s.heap.objs.size = some { cls := .type "list", data := .seq ([] : List Value).toArray } := Heap.get?_push_size _ rfl
  refine wpAny_bind ?_
  show wpAny _ A.in1 (updateSeq s.heap.objs.size (·.push .none) >>= fun _ => updateSeq s.heap.objs.size (·.pop)) _ _ _
  refine wpAny_bind (wpAny_updateSeq hS₁ rfl ?_)
  have hS₂ := Heap.get?_update_self (Obj.mapSeq (·.push Value.none)) hS₁ rfl
  refine wpAny_updateSeq hS₂ rfl ?_
  have hS₃ := Heap.get?_update_self (Obj.mapSeq (·.pop)) hS₂ rfl
  have oth : ∀ b o, b ≠ s.heap.objs.size → (s.heap.push { cls := .type "list", data := .seq ([] : List Value).toArray }).get? b = some o →
      (((s.heap.push { cls := .type "list", data := .seq ([] : List Value).toArray }).update s.heap.objs.size (Obj.mapSeq (·.push Value.none))).update s.heap.objs.size (Obj.mapSeq (·.pop))).get? b = some o :=
    fun b o hb e => (Heap.get?_update_other _ _ (Ne.symm hb)).trans ((Heap.get?_update_other _ _ (Ne.symm hb)).trans e)
  refine wpAny_pure ⟨plainId_quiet F.plain_extend_loop _, codeAny_mono (h _ _ (fun b o e => oth b o (Nat.ne_of_lt (Heap.lt_size e)) (Heap.get?_push_of_some _ e)) hS₃) ?_⟩
  intro r s' hr
  cases r with
  | error e => exact hr
  | ok fl =>
    cases fl with
    | ret v =>
      obtain ⟨acc, c, rfl, hS', q⟩ := hr
      show wpAny _ A (load s.heap.objs.size >>= _) _ _ s'
      exact wpAny_bind (wpAny_load hS' (wpAny_pure q))
    | _ => exact hr
theorem code_tuple_new_map {m t : Addr} {f : Value} {Q₁ : Value → Shared → Prop} (hm : s.heap.get? m = some (mapO t f))
    (h : ∀ h1 c0, (∀ b o, s.heap.get? b = some o → h1.get? b = some o) → h1.get? s.heap.objs.size = some { cls := .type "list", dict := none, data := .seq #[] c0, slots := #[] } →
      codeAny (model prog w) A.in1 (.builtin "list.extend.loop" ⟨[.ref s.heap.objs.size, .ref m, .ref s.heap.objs.size], []⟩)
        (fun r s' => match r with
          | .ok (.ret v) => ∃ acc c, v = .ref s.heap.objs.size ∧ s'.heap.get? s.heap.objs.size = some { cls := .type "list", dict := none, data := .seq acc c, slots := #[] } ∧ acc.size ≤ sizeLine ∧ Q₁ (.ref s'.heap.objs.size) { s' with heap := s'.heap.push { cls := .type "tuple", data := .seq acc } }
          | .ok _ => False
          | .error e => E e s') { s with heap := h1 }) :
    codeAny (model prog w) A (.call (.builtin "tuple.__new__") ⟨[.type "tuple", .ref m], []⟩) (wants Q₁ E) s := by
  refine codeAny_of_tree ?_
  show wpAny _ A.in1 (do checkBuiltinCall "tuple.__new__" ⟨[.type "tuple", .ref m], []⟩; again (.builtin "tuple.__new__" ⟨[.type "tuple", .ref m], []⟩)) _ _ s
  refine wpAny_bind (wpAny_of_eq (F.newCall_tuple_1 _) (wpAny_pure ⟨plainId_quiet F.plain_tuple_new _, codeAny_builtin F.entry_tuple_new ?_⟩))
  rw [Around.under_plainId F.plain_tuple_new _]
  have hsub := sub_tuple_self
  have hinit := init_tuple_lookup
  have hmh := madeHere_tuple
  have hTI : s.TypeIs (.ref m) "map" := ⟨_, hm, rfl⟩
  wp_walk using wpAny_typeOf hTI, collect_map hm
  intro h1 c0 k1 k2
  refine codeAny_mono (h h1 c0 k1 k2) fun r s' hr => ?_
  cases r with
  | error e => exact hr
  | ok fl =>
    cases fl with
    | ret v =>
      obtain ⟨acc, c, e1, e2, e3, q⟩ := hr
      refine ⟨acc, c, e1, e2, ?_⟩
      show wpAny _ _ (Builtin.Tuple.tupleExact acc.toList.toArray >>= fun v => ret v) _ _ _
      unfold Builtin.Tuple.tupleExact
      have e : acc.toList.toArray = acc := by simp
      rw [e]
      exact wpAny_bind (wpAny_newObj_type (wpAny_pure q) e3)
    | _ => exact hr
theorem call_tuple_map {m t : Addr} {f : Value} {Q : Value → Shared → Prop} (hm : s.heap.get? m = some (mapO t f))
    (h : ∀ h1 c0, (∀ b o, s.heap.get? b = some o → h1.get? b = some o) → h1.get? s.heap.objs.size = some { cls := .type "list", dict := none, data := .seq #[] c0, slots := #[] } →
      codeAny (model prog w) A.in1.in1 (.builtin "list.extend.loop" ⟨[.ref s.heap.objs.size, .ref m, .ref s.heap.objs.size], []⟩)
        (fun r s' => match r with
          | .ok (.ret v) => ∃ acc c, v = .ref s.heap.objs.size ∧ s'.heap.get? s.heap.objs.size = some { cls := .type "list", dict := none, data := .seq acc c, slots := #[] } ∧ acc.size ≤ sizeLine ∧ Q (.ref s'.heap.objs.size) { s' with heap := s'.heap.push { cls := .type "tuple", data := .seq acc } }
          | .ok _ => False
          | .error e => E e s') { s with heap := h1 }) :
    wpAny (model prog w) A (call (.type "tuple") [.ref m]) Q E s := by
  refine callType_codes (Q₁ := fun obj s₁ => s₁.TypeIs obj "tuple" ∧ Q obj s₁) F.called_tuple (F.typeCall_tuple_1 _) F.entry_object_init (code_tuple_new_map hm fun h1 c0 k1 k2 => ?_) fun obj s₁ h₁ => ?_
  · refine codeAny_mono (h h1 c0 k1 k2) fun r s' hr => ?_
    cases r with
    | error e => exact hr
    | ok fl =>
      cases fl with
      | ret v =>
        obtain ⟨acc, c, e1, e2, e3, q⟩ := hr
        exact ⟨acc, c, e1, e2, e3, ⟨_, Heap.get?_push_size _ rfl, rfl⟩, q⟩
      | _ => exact hr
  · exact ⟨h₁.1, F.args_object_init_2 obj _, object_init_meets F.called_tuple.init.lookup F.called_tuple.made (by decide) prog w A.in1 _ s₁ ⟨h₁.1, rfl, h₁.2⟩⟩
end
end PL

end
section
open PySem PySem.Calls PyProof.Rows
set_option Elab.async false
set_option linter.unusedVariables false
set_option linter.unusedSimpArgs false
set_option linter.unusedSectionVars false
set_option maxRecDepth 100000
namespace PL
/-! the same frame, seen from inside a builtin -/
noncomputable def Cx.at_ (C : Cx) (A' : Around) (m : Nat) (hd : A'.depth + m ≤ 900) (hu : A'.units + 20 * m ≤ 9000) (hf : A'.frames = C.A.frames) : Cx :=
  { C with A := A', n := m, hdep := hd, hunits := hu, hframes := by rw [hf]; exact C.hframes }
section
variable {C : Cx} {zs z : Z} {σ : St} {s : Shared} {A' : Around} {m : Nat} {hd : A'.depth + m ≤ 900} {hu : A'.units + 20 * m ≤ 9000} {hf : A'.frames = C.A.frames}
theorem R.to (r : R C zs σ z s) : R (C.at_ A' m hd hu hf) zs σ z s := ⟨r.rh, r.ns, r.cells, r.cellsOk, r.locFree, r.fr⟩
theorem R.from (r : R (C.at_ A' m hd hu hf) zs σ z s) : R C zs σ z s := ⟨r.rh, r.ns, r.cells, r.cellsOk, r.locFree, r.fr⟩
/-- nothing is told of the object any more -/
theorem R.forget (hR : R C zs σ z s) {I : Addr} {o : Obj} (e : s.heap.get? I = some o) (h0 : z I = none) (q : Apart C zs σ I) (hs : ∀ ov, o.data ≠ .cell ov) {h' : Heap} {t : Nat} (k : Heap.ExtBut I s.heap h') : R C zs σ z { s with heap := h', toks := t } :=
  (hR.hideAt e h0 q).unhideC q.1 hR.fr hs k
theorem R.drop1 {a : Addr} {o : AO} {L : List (Str × V)} {H : Led} (hR : R C zs ⟨L, (a, o) :: H⟩ z s) : R C zs ⟨L, H⟩ z s ∧ z a = none ∧ Apart C zs ⟨L, H⟩ a := by
  obtain ⟨p1, p2, p3⟩ := hR.rh.hH (a, o) List.mem_cons_self
  have hn := hR.rh.nodup
  have hn : a ∉ H.map (·.1) := (List.nodup_cons.mp (by simpa using hn)).1
  refine ⟨hR.weaken (fun _ _ h => h) (List.sublist_cons_self ..), p2, p3, ?_, hn, ?_⟩
  · intro e; exact hR.locFree.2.2 (by rw [← e]; exact List.mem_cons_self)
  · intro p hp e
    obtain ⟨_, _, _, _, q⟩ := hR.cellsOk p hp
    exact q (by rw [e]; exact List.mem_cons_self)
end
noncomputable def itO (o : Obj) (l : Addr) (i : Nat) : Prop := o.cls = .type "list_iterator" ∧ o.data = .fields #[.ref l, .int (i : Int) 0]
/-- what map(f, xs) gives -/
noncomputable def PMap (vs : List V) (f : Value) (L : List (Str × V)) (H : Led) (i : Nat) : Z → Value → St → Prop := fun z val σ =>
  ∃ m t I l items n o, val = .ref m ∧ z l = some (lstO items n) ∧ RepL z vs items ∧ itO o l i ∧ σ = ⟨L, (m, .raw (mapO t f)) :: (t, .raw (tupO [.ref I] 0)) :: (I, .raw o) :: H⟩
section
variable {C : Cx} {X : XP} {σ : St}
theorem TT.mapL {z₀ : Z} {f : Value} {vs : List V} {xs : List Value} (r : RepL z₀ [.con f, .lst vs] xs) : TT C z₀ (call (.type "map") xs []) (PMap vs f σ.loc σ.H 0) X σ := by
  have rq := RepL.inv r; clear r; obtain ⟨_, _, rfl, r1, t⟩ := rq
  have tq := RepL.inv t; clear t; obtain ⟨_, _, rfl, r2, t⟩ := tq
  cases t.inv0; clear t; have r1q := r1.e; clear r1; obtain ⟨_, ef⟩ := r1q; have ef := ef.symm; subst ef
  have r2q := r2.e; clear r2; obtain ⟨l, items, n, rfl, e, hr⟩ := r2q
  intro zs z s hz hR
  refine call_map_list (hR.rh.hz _ _ (hz _ _ e)) fun h' e1 e2 e3 k => ?_
  have R1 : R C zs σ z { s with heap := h' } := hR.grow (t := s.toks) k
  have n0 : ∀ a, s.heap.objs.size ≤ a → z a = none := fun a ha => hR.rh.fresh_z ha
  have ap : ∀ a, s.heap.objs.size ≤ a → Apart C zs σ a := fun a ha => hR.apart_new ha
  have R2 := R1.ledger (o := .raw { cls := .type "list_iterator", data := .fields #[.ref l, .int 0 0] }) e1 (n0 _ (Nat.le_refl _)) (ap _ (Nat.le_refl _))
  have ap2 : ∀ {a b : Addr} {o : AO} {H : Led}, a ≠ b → Apart C zs ⟨σ.loc, H⟩ a → Apart C zs ⟨σ.loc, (b, o) :: H⟩ a := fun hab ⟨x, y, w, u⟩ => ⟨x, y, by rw [List.map_cons, List.mem_cons]; exact fun q => q.elim hab w, u⟩
  have R3 := R2.ledger (o := .raw (tupO [.ref s.heap.objs.size] 0)) e2 (n0 _ (Nat.le_succ _)) (ap2 (Nat.succ_ne_self _) (ap _ (Nat.le_succ _)))
  have R4 := R3.ledger (o := .raw (mapO (s.heap.objs.size + 1) f)) e3 (n0 _ (Nat.le_add_right _ 2)) (ap2 (Nat.succ_ne_self _) (ap2 (Nat.ne_of_gt (Nat.lt_add_of_pos_right (by decide))) (ap _ (Nat.le_add_right _ 2))))
  exact ⟨z, _, Z.le_refl _, R4, _, _, _, l, items, n, _, rfl, hz _ _ e, hr.mono hz, ⟨rfl, rfl⟩, rfl⟩
theorem TT.tupleMap {z₀ : Z} {k : Nat} {f : Value} {vs ws : List V} {L : List (Str × V)} {H : Led} {Q : V → St → Prop} {val : Value} (hh : C.A.handled = none) (hm : PMap vs f L H 0 z₀ val σ) (hk : k + 1 ≤ C.n) (hlen : ws.length = vs.length) (hn : vs.length ≤ 16777216)
    (hf : ∀ (i : Nat) (v w : V) (H' : Led), vs[i]? = some v → ws[i]? = some w → CallT C.g k f [v] (fun u H1 => u = w ∧ H1 = H') (fun _ _ => False) H') (h : Q (.tup ws) ⟨L, H⟩) :
    TT C z₀ (call (.type "tuple") [val] []) (PVal Q) X σ := by
  obtain ⟨m, t, I, l, items, n, o, rfl, hzl, hr, ho, rfl⟩ := hm
  intro zs z s hz hR
  have hml : s.heap.get? m = some (mapO t f) := (hR.rh.hH _ List.mem_cons_self).1
  generalize hS : s.heap.objs.size = S
  have hlen2 : items.length = vs.length := hr.length
  refine call_tuple_map hml fun h1 c0 k1 e1 => ?_
  rw [hS] at e1 ⊢
  have R1 : R C zs _ z { s with heap := h1 } := hR.grow (t := s.toks) k1
  have z0 : z S = none := hR.rh.fresh_z (Nat.le_of_eq hS)
  have zsS : zs S = none := hR.rh.fresh_zs (Nat.le_of_eq hS)
  have apS := hR.apart_new (Nat.le_of_eq hS)
  have hkn : k + 1 ≤ C.n := hk
  have hdep := C.hdep
  have hunits := C.hunits
  have i1 := in1_units C.A
  have i2 := in1_units C.A.in1
  have i3 := in1_units C.A.in1.in1
  have i4 := in1_units C.A.in1.in1.in1
  let C2 : Cx := C.at_ C.A.in1.in1.in1.in1 k (by show C.A.depth + k ≤ 900; (clear i4 i3 i2 i1 hunits hkn apS zsS z0 R1 e1 k1 c0 h1 hlen2 hS hml hR hz z zs ho hr hzl o n l I t m h hf hn hlen hh Q H L f z₀ X S s items ws vs; (first | lia | omega))) (by (clear hdep hkn apS zsS z0 R1 e1 k1 c0 h1 hlen2 hS hml hR hz z zs ho hr hzl o n l I t m h hf hn hlen hh Q H L f z₀ X S s items ws vs; (first | lia | omega))) rfl
  let Inv : Nat → Array Value → Shared → Prop := fun i acc s' => ∃ z' c o, Z.le z z' ∧ itO o l i ∧ R C (zs.put S (lstO acc.toList c)) ⟨L, (m, .raw (mapO t f)) :: (t, .raw (tupO [.ref I] 0)) :: (I, .raw o) :: H⟩ z' s' ∧ RepL z' (ws.take i) acc.toList
  have start : Inv 0 #[] { s with heap := h1 } := ⟨z, c0, o, Z.le_refl _, ho, R1.hideAt e1 z0 apS, by simpa using RepL.nil⟩
  have sub : ∀ {i : Nat} {acc : Array Value} {s' : Shared}, Inv i acc s' → ∃ c, s'.heap.get? S = some { cls := .type "list", dict := none, data := .seq acc c, slots := #[] } := by
    rintro i acc s' ⟨z', c, o, lz, hit, R', rl⟩
    exact ⟨c, by have := R'.rh.hidden put_self (Stays.list _ c); simpa [lstO] using this⟩
  refine extend_loop (A := C.A.in1.in1) hn (.ref S) Inv (fun i acc c s' hi inv hS' => ?_) (fun acc c s' inv hS' => ?_) vs.length 0 _ #[] c0 rfl (Nat.zero_le _) rfl start e1
  · obtain ⟨z', c', o', lz, hit, R', rl⟩ := inv
    have hm' : s'.heap.get? m = some (mapO t f) := (R'.rh.hH _ List.mem_cons_self).1
    have ht' : s'.heap.get? t = some (tupO [.ref I] 0) := (R'.rh.hH (t, _) (List.mem_cons_of_mem _ List.mem_cons_self)).1
    have hI' : s'.heap.get? I = some o' := (R'.rh.hH (I, _) (List.mem_cons_of_mem _ (List.mem_cons_of_mem _ List.mem_cons_self))).1
    have hmI : m ≠ I := by
      have := R'.rh.nodup
      simp only [List.map_cons, List.nodup_cons, List.mem_cons, not_or] at this
      exact this.1.2.1
    have hl' : s'.heap.get? l = some (lstO items n) := R'.rh.hz _ _ (lz _ _ (hz _ _ hzl))
    have hv : vs[i]? = some vs[i] := List.getElem?_eq_getElem hi
    have hw : ws[i]? = some ws[i] := List.getElem?_eq_getElem (by (clear hv hl' hmI hI' ht' hm' rl R' hit lz o' c' z' hS' s' c acc sub start Inv C2 i4 i3 i2 i1 hunits hdep hkn apS zsS z0 R1 e1 k1 c0 h1 hS hml hR hz z zs ho hr hzl o n l I t m h hf hn hk hh Q H L f z₀ X S s k C hlen2 items; (first | lia | omega)))
    obtain ⟨x, hx, rx⟩ := (hr.mono (Z.le_trans hz lz)).get hv
    refine pyNext_map_item hm' ht' ⟨o', hI', hit.1, hit.2⟩ (isList_of hl') (x := x) (by simpa using hx) hmI fun h2 hit2 hsb => ?_
    obtain ⟨o2, e2, c2, d2⟩ := hit2
    have R2 : R C (zs.put S (lstO acc.toList c')) ⟨L, (m, .raw (mapO t f)) :: (t, .raw (tupO [.ref I] 0)) :: (I, .raw o2) :: H⟩ z' { s' with heap := h2 } :=
      R'.upd (t := s'.toks) (.tail (.tail .head)) hsb e2
    have cv : CallV C2 f [vs[i]] (fun u σ1 => u = ws[i] ∧ σ1 = ⟨L, (m, .raw (mapO t f)) :: (t, .raw (tupO [.ref I] 0)) :: (I, .raw o2) :: H⟩) X0 ⟨L, (m, .raw (mapO t f)) :: (t, .raw (tupO [.ref I] 0)) :: (I, .raw o2) :: H⟩ := by
      refine CallV.fn (n := k) (Nat.le_refl _) hh ?_
      have := hf i vs[i] ws[i] ((m, .raw (mapO t f)) :: (t, .raw (tupO [.ref I] 0)) :: (I, .raw o2) :: H) hv hw
      intro A outer zs z s xs a1 a2 a3 a4 a5 a6 a7
      refine codeAny_mono (this A outer zs z s xs a1 a2 a3 a4 a5 a6 a7) ?_
      rintro r s'' hq
      cases r with
      | ok fl =>
        cases fl with
        | ret val =>
          obtain ⟨z1, H1, v1, b1, b2, b3, b4, b5⟩ := hq
          exact ⟨z1, H1, v1, b1, b2, b3, b4, by rw [b5]⟩
        | _ => exact hq
      | error e =>
        obtain ⟨z1, H1, cls, b1, b2, b3, b4⟩ := hq
        exact b4.elim
    refine wpAny_mono (cv z' [x] (.cons rx .nil) _ z' _ (Z.le_refl _) R2.to) ?_ fun e s3 q => q.absurd
    rintro v s3 ⟨z3, σ3, l3, R3, u, ru, rfl, rfl⟩
    have R3 := R3.from
    have hS3 : s3.heap.get? S = some (lstO acc.toList c') := R3.rh.hidden put_self (Stays.list _ c')
    refine ⟨v, c', rfl, by simpa [lstO] using hS3, ?_⟩
    obtain ⟨c4, hc4⟩ : ∃ c4, (s3.heap.update S (Obj.mapSeq (·.push v))).get? S = some (lstO (acc.push v).toList c4) := ⟨c' + 1, by rw [Heap.get?_update_self _ hS3 rfl]; simp [Obj.mapSeq, lstO]; exact (Array.toArray_toList (xs := acc.push v)).symm.trans (by simp)⟩
    refine ⟨z3, c4, o2, Z.le_trans lz l3, ⟨c2, d2⟩, R3.iter (t := s3.toks) zsS hR.fr (Stays.list _ c') (Heap.SameBut.update ..).extBut hc4, ?_⟩
    rw [List.take_add_one, hw, Array.toList_push]
    exact (rl.mono l3).append (.cons ru .nil)
  · obtain ⟨z', c', o', lz, hit, R', rl⟩ := inv
    have hm' : s'.heap.get? m = some (mapO t f) := (R'.rh.hH _ List.mem_cons_self).1
    have ht' : s'.heap.get? t = some (tupO [.ref I] 0) := (R'.rh.hH (t, _) (List.mem_cons_of_mem _ List.mem_cons_self)).1
    have hI' : s'.heap.get? I = some o' := (R'.rh.hH (I, _) (List.mem_cons_of_mem _ (List.mem_cons_of_mem _ List.mem_cons_self))).1
    have hl' : s'.heap.get? l = some (lstO items n) := R'.rh.hz _ _ (lz _ _ (hz _ _ hzl))
    refine pyNext_map_end (A := C.A.in1.in1.in1) hh hm' ht' ⟨o', hI', hit.1, hit.2⟩ (isList_of hl') (by simp [hlen2]) fun h2 hex => ?_
    refine ⟨rfl, ?_⟩
    have R2 : R C (zs.put S (lstO acc.toList c')) ⟨L, H⟩ z' { s' with heap := h2 } := by
      obtain ⟨Ra, _, _⟩ := R'.drop1
      obtain ⟨Rb, _, _⟩ := Ra.drop1
      obtain ⟨Rc, y1, y2⟩ := Rb.drop1
      exact Rc.forget (t := s'.toks) hI' y1 y2 (fun ov e => by rw [hit.2] at e; cases e) hex
    have hS2 : h2.get? S = some (lstO acc.toList c') := R2.rh.hidden put_self (Stays.list _ c')
    have R3 : R C zs ⟨L, H⟩ z' { s' with heap := h2 } := R2.unhide (t := s'.toks) (h' := h2) zsS hR.fr (Stays.list _ c') fun b o _ e => e
    rw [List.take_of_length_le (by (clear R3 hS2 R2 hex h2 hl' hI' ht' hm' rl R' hit lz o' c' z' hS' s' c acc sub start Inv C2 i4 i3 i2 i1 hunits hdep hkn apS zsS z0 R1 e1 k1 c0 h1 hlen2 hS hml hR hz z zs ho hr hzl o n l I t m h hf hn hk hh Q H L f z₀ X S s items k C; (first | lia | omega)))] at rl
    refine ⟨acc, c', rfl, by simpa [lstO] using hS2, by have := rl.length; rw [Array.length_toList] at this; rw [this, hlen]; exact size_ok hn, ?_⟩
    obtain ⟨R4, l4⟩ := R3.frozen { cls := .type "tuple", data := .seq acc } s'.toks
    refine ⟨_, _, Z.le_trans lz l4, R4, _, .tup (n := 0) (items := acc.toList) ?_ (rl.mono l4), h⟩
    rw [put_self]
theorem TT.args1 {z₀ : Z} {e : Expr} {pos : Pos} {P : Z → List Value → St → Prop} (h : TT C z₀ (eval e C.env) (fun z v σ' => ∀ z', Z.le z z' → P z' [v] σ') X σ) (he : starEach [e] C.env = (false, eval e C.env) :: starEach [] C.env := by rfl) :
    TT C z₀ (spliced (backTo pos (starEach [e] C.env))) P X σ := by
  rw [he]
  show TT C z₀ (do
    let v ← eval e C.env
    let here ← (Pure.pure [v] : Sem (List Value))
    return here ++ (← PySem.holding here (spliced (backTo pos (starEach [] C.env))))) _ X σ
  refine TT.bind (TT.mono h ?_)
  rintro z a σ1 l1 h1
  refine TT.bind (TT.pure fun z1 l2 => TT.bind (TT.holding ?_))
  show TT C z1 (Pure.pure []) _ X σ1
  exact TT.pure fun z2 l3 => TT.pure fun z3 l4 => h1 z3 (Z.le_trans l2 (Z.le_trans l3 l4))
theorem PMap.mono {vs : List V} {f : Value} {L : List (Str × V)} {H : Led} {i : Nat} {z z' : Z} {val : Value} {σ : St} (l : Z.le z z') : PMap vs f L H i z val σ → PMap vs f L H i z' val σ := by
  rintro ⟨m, t, I, a, items, n, o, h1, h2, h3, h4, h5⟩
  exact ⟨m, t, I, a, items, n, o, h1, l _ _ h2, h3.mono l, h4, h5⟩
theorem BI_map : bootBuiltins "map" = some (.type "map") := by kernel_rfl
theorem BI_tuple : bootBuiltins "tuple" = some (.type "tuple") := by kernel_rfl
/-- tuple(map(f, a list)) -/
theorem TE.tupleMap {g : Gd} {n : Nat} {sc : Scope} {np1 np2 pos pos2 : Pos} {args : List Expr} {Q : V → St → Prop} (hIn : In C g n sc) (hfr : Free g BI) (hl1 : sc.names.lookup ("tuple" : Str) = some .globalImplicit) (hl2 : sc.names.lookup ("map" : Str) = some .globalImplicit)
    (h : TArgs C args (fun us σ1 => ∃ f vs ws k, us = [.con f, .lst vs] ∧ k + 1 ≤ n ∧ ws.length = vs.length ∧ vs.length ≤ 16777216 ∧
      (∀ (i : Nat) (v w : V) (H' : Led), vs[i]? = some v → ws[i]? = some w → CallT g k f [v] (fun u H1 => u = w ∧ H1 = H') (fun _ _ => False) H') ∧ Q (.tup ws) σ1) X σ)
    (hp2 : (backTo pos2 (starEach args C.env)).any (·.1) = false := by rfl)
    (hp : (backTo pos (starEach [.Call (.Name "map" np2) args [] pos2] C.env)).any (·.1) = false := by rfl)
    (he2 : eval (.Call (.Name "map" np2) args [] pos2) C.env = (do callWith pos2 (← eval (.Name "map" np2) C.env) [] (backTo pos2 (starEach args C.env)) []) := by rfl)
    (he : eval (.Call (.Name "tuple" np1) [.Call (.Name "map" np2) args [] pos2] [] pos) C.env = (do callWith pos (← eval (.Name "tuple" np1) C.env) [] (backTo pos (starEach [.Call (.Name "map" np2) args [] pos2] C.env)) []) := by rfl)
    (hs : starEach [.Call (.Name "map" np2) args [] pos2] C.env = (false, eval (.Call (.Name "map" np2) args [] pos2) C.env) :: starEach [] C.env := by rfl) :
    TE C (.Call (.Name "tuple" np1) [.Call (.Name "map" np2) args [] pos2] [] pos) Q X σ := by
  intro z₀
  have hg := hIn.g
  subst hg
  rw [he]
  refine TT.bind (TT.mono (TE.name_builtin (Q := fun v σ1 => v = .con (.type "tuple") ∧ σ1 = σ) ((hIn.kind _).trans hl1) (hfr _ (by decide +kernel)) BI_tuple ⟨rfl, rfl⟩ (by decide +kernel) (by decide +kernel) z₀) ?_)
  rintro z fx σ1 l1 ⟨_, rf, rfl, rfl⟩
  cases rf
  refine TT.callWith (.ty "tuple") hp (TT.args1 (he := hs) ?_)
  rw [he2]
  refine TT.bind (TT.mono (TE.name_builtin (Q := fun v σ2 => v = .con (.type "map") ∧ σ2 = σ1) ((hIn.kind _).trans hl2) (hfr _ (by decide +kernel)) BI_map ⟨rfl, rfl⟩ (by decide +kernel) (by decide +kernel) z) ?_)
  rintro z2 fx σ2 l2 ⟨_, rf, rfl, rfl⟩
  cases rf
  refine TT.callWith (.ty "map") hp2 (TT.mono (h pos2 z2) ?_)
  rintro z3 xs σ3 l3 ⟨us, rs, f, vs, ws, k, rfl, hk, hlen, hn, hf, q⟩
  refine TT.mono (TT.mapL rs) ?_
  rintro z4 val σ4 l4 pm z5 l5
  have hnn := hIn.n
  exact TT.tupleMap hIn.calm (pm.mono l5) (by (clear l5 z5 pm l4 σ4 val z4 q hf hn hlen rs f l3 σ3 xs z3 h l2 σ2 z2 l1 z hfr hIn z₀ hs he he2 hp hp2 hl2 hl1 Q args pos2 pos np2 np1 sc X ws vs; (first | lia | omega))) hlen hn hf q
end
end PL

end
section
open PySem PySem.Calls PyProof.Rows
set_option Elab.async false
set_option linter.unusedVariables false
set_option linter.unusedSimpArgs false
set_option linter.unusedSectionVars false
set_option maxRecDepth 100000
namespace PL
/-! a loop over enumerate of a list -/
noncomputable abbrev enumO (I : Addr) (i : Int) (old : Value) : Obj := { cls := .type "enumerate", dict := none, data := .fields #[.none, .bool false, .ref I, rawInt i, .none, old], slots := #[] }
noncomputable def PEnum (vs : List V) (L : List (Str × V)) (H : Led) : Z → Value → St → Prop := fun z val σ =>
  ∃ E I l items n o, val = .ref E ∧ z l = some (lstO items n) ∧ RepL z vs items ∧ itO o l 0 ∧ σ = ⟨L, (E, .raw (enumO I 0 .none)) :: (I, .raw o) :: H⟩
section
variable {C : Cx} {X : XP} {σ : St} {zs z : Z} {s : Shared}
theorem TT.enumL {z₀ : Z} {vs : List V} {xs : List Value} (r : RepL z₀ [.lst vs] xs) : TT C z₀ (call (.type "enumerate") xs []) (PEnum vs σ.loc σ.H) X σ := by
  have rq := RepL.inv r; clear r; obtain ⟨_, _, rfl, r2, t⟩ := rq
  cases t.inv0; clear t
  cases r2 with
  | @lst _ l items n e hr =>
    intro zs z s hz hR
    refine call_enumerate_list (isList_of (hR.rh.hz _ _ (hz _ _ e))) fun h' e1 e2 e3 k => ?_
    obtain ⟨o, e2, c2, d2⟩ := e2
    have R1 : R C zs σ z { s with heap := h' } := hR.grow (t := s.toks) k
    have n0 : ∀ a, s.heap.objs.size ≤ a → z a = none := fun a ha => hR.rh.fresh_z ha
    have ap : ∀ a, s.heap.objs.size ≤ a → Apart C zs σ a := fun a ha => hR.apart_new ha
    have R2 := R1.ledger (o := .raw o) e2 (n0 _ (Nat.le_refl _)) (ap _ (Nat.le_refl _))
    have ap2 : ∀ {a b : Addr} {o : AO} {H : Led}, a ≠ b → Apart C zs ⟨σ.loc, H⟩ a → Apart C zs ⟨σ.loc, (b, o) :: H⟩ a := fun hab ⟨x, y, w, u⟩ => ⟨x, y, by rw [List.map_cons, List.mem_cons]; exact fun q => q.elim hab w, u⟩
    have R3 := R2.ledger (o := .raw (enumO s.heap.objs.size 0 .none)) e1 (n0 _ (Nat.le_succ _)) (ap2 (Nat.succ_ne_self _) (ap _ (Nat.le_succ _)))
    exact ⟨z, _, Z.le_refl _, R3, _, _, l, items, n, o, rfl, hz _ _ e, hr.mono hz, ⟨c2, d2⟩, rfl⟩
/-- two hidden objects have changed -/
theorem R.iter2 {I J : Addr} {oI oJ oI' oJ' : Obj} (hR : R C ((zs.put I oI).put J oJ) σ z s) (hI : zs I = none) (hJ : zs J = none) (hIJ : J ≠ I) (hfr : FrOK C.outer zs) (sI : Stays oI) (sJ : Stays oJ) {h' : Heap} {t : Nat}
    (k : ∀ b o, b ≠ J → b ≠ I → s.heap.get? b = some o → h'.get? b = some o) (eI : h'.get? I = some oI') (eJ : h'.get? J = some oJ') : R C ((zs.put I oI').put J oJ') σ z { s with heap := h', toks := t } := by
  have hJ' : (zs.put I oI) J = none := put_ne hIJ hJ
  obtain ⟨j0, j1, j2, j3, j4⟩ := hR.apartHid hJ' sJ
  have hR' : R C ((zs.put J oJ).put I oI) σ z s := by rw [Z.put_comm hIJ]; exact hR
  obtain ⟨i0, i1, i2, i3, i4⟩ := hR'.apartHid (put_ne (Ne.symm hIJ) hI) sI
  have low : ∀ b p, zs b = some p → b ≠ I ∧ b ≠ J ∧ ((zs.put I oI).put J oJ) b = some p := fun b p e => ⟨fun q => (by rw [q, hI] at e; cases e), fun q => (by rw [q, hJ] at e; cases e), put_le_of hJ' (put_le_of hI e)⟩
  have nz : ∀ b p, z b = some p → b ≠ J ∧ b ≠ I := fun b p hb => ⟨fun w => (by rw [w, j0] at hb; cases hb), fun w => (by rw [w, i0] at hb; cases hb)⟩
  have back : ∀ b p, ((zs.put I oI').put J oJ') b = some p → (b = J ∧ p = oJ') ∨ (b = I ∧ p = oI') ∨ zs b = some p := by
    intro b p e
    by_cases q : b = J
    · subst q; rw [put_self] at e; cases e; exact .inl ⟨rfl, rfl⟩
    · have e := put_some e q
      by_cases q2 : b = I
      · subst q2; rw [put_self] at e; cases e; exact .inr (.inl ⟨rfl, rfl⟩)
      · exact .inr (.inr (put_some e q2))
  have none' : ∀ b, ((zs.put I oI).put J oJ) b = none → ((zs.put I oI').put J oJ') b = none := fun b e => by
    obtain ⟨n1, e1⟩ := put_none e
    obtain ⟨n2, e2⟩ := put_none e1
    exact put_ne n1 (put_ne n2 e2)
  refine ⟨⟨fun b p hb => k b p (nz b p hb).1 (nz b p hb).2 (hR.rh.hz b p hb), hR.rh.hbase, fun b p hb => ?_, fun b p hb => ?_, fun p hp => ?_, hR.rh.nodup, hR.rh.gens, hR.rh.os⟩, ?_, fun x v h1 h2 => ?_, fun p hp => ?_, ?_, (hfr.put hI).put (put_ne hIJ hJ)⟩
  · rcases back b p hb with ⟨rfl, rfl⟩ | ⟨rfl, rfl⟩ | q
    · exact ⟨_, eJ, fun _ => rfl⟩
    · exact ⟨_, eI, fun _ => rfl⟩
    · obtain ⟨n1, n2, e⟩ := low b p q
      obtain ⟨sl, a, c⟩ := hR.rh.hzs b p e
      exact ⟨sl, k _ _ n2 n1 a, c⟩
  · rcases back b p hb with ⟨rfl, rfl⟩ | ⟨rfl, rfl⟩ | q
    · exact j0
    · exact i0
    · exact hR.rh.disj b p (low b p q).2.2
  · obtain ⟨a, b, c⟩ := hR.rh.hH p hp
    obtain ⟨n1, c1⟩ := put_none c
    obtain ⟨n2, c2⟩ := put_none c1
    exact ⟨a.keep fun o ho => k _ _ n1 n2 ho, b, none' _ c⟩
  · obtain ⟨m, ⟨ol, es, ep, a, b, c⟩, d⟩ := hR.ns
    exact ⟨m, ⟨ol, es, ep, k _ _ (Ne.symm j2) (Ne.symm i2) a, b, c⟩, d⟩
  · obtain ⟨c, val, a, ⟨oc, b1, b2⟩, d⟩ := hR.cells x v h1 h2
    exact ⟨c, val, a, ⟨oc, k _ _ (j4 _ (mem_of_lookup a)) (i4 _ (mem_of_lookup a)) b1, b2⟩, d⟩
  · obtain ⟨⟨ov, oc, b1, b2⟩, b, c, d⟩ := hR.cellsOk p hp
    exact ⟨⟨ov, oc, k _ _ (j4 p hp) (i4 p hp) b1, b2⟩, b, c.imp (none' _) id, d⟩
  · exact ⟨hR.locFree.1, none' _ hR.locFree.2.1, hR.locFree.2.2⟩
theorem BI_enumerate : bootBuiltins "enumerate" = some (.type "enumerate") := by kernel_rfl
inductive EnumI (C : Cx) (zs z1 : Z) (I E l : Addr) (Inv : Nat → St → Prop) (N n' : Nat) (s' : Shared) : Prop
  | mk (i : Nat) (σ' : St) (z' : Z) (o : Obj) (old : Value) (hn : n' = N - i) (hi : i ≤ N) (lz : Z.le z1 z') (r : R C ((zs.put I o).put E (enumO I i old)) σ' z' s') (hit : itO o l i) (inv : Inv i σ')
inductive EnumH (C : Cx) (target : Expr) (body orelse : List Stmt) (Q : Fl → St → Prop) (vs : List V) (σ1 : St) : Prop
  | mk (Inv : Nat → St → Prop) (i0 : Inv 0 σ1)
    (turn : ∀ i u σ, vs[i]? = some u → Inv i σ → TAs C target (.tup [.int i, u]) (fun σ' => TSs C body (LoopQ (Inv (i + 1)) Q) X0 σ') X0 σ)
    (fin : ∀ σ, Inv vs.length σ → TSs C orelse Q X0 σ)
theorem TS.forEnum {g : Gd} {n : Nat} {sc : Scope} {np ipos pos tp : Pos} {k : Nat} {t1 t2 : Expr} {args : List Expr} {body orelse : List Stmt} {Q : Fl → St → Prop} (hIn : In C g n sc) (hfr : Free g BI) (hl : sc.names.lookup ("enumerate" : Str) = some .globalImplicit)
    (h : TArgs C args (fun us σ1 => ∃ vs, us = [.lst vs] ∧ EnumH C (.Tuple [t1, t2] k tp) body orelse Q vs σ1) X σ)
    (hp : (backTo ipos (starEach args C.env)).any (·.1) = false := by rfl)
    (he : eval (.Call (.Name "enumerate" np) args [] ipos) C.env = (do callWith ipos (← eval (.Name "enumerate" np) C.env) [] (backTo ipos (starEach args C.env)) []) := by rfl)
    (hs : ∀ x, foldedSetIterable (.Call (.Name "enumerate" np) args [] ipos) C.env x = Pure.pure x := by intro _; rfl) : TS C (.For (.Tuple [t1, t2] k tp) (.Call (.Name "enumerate" np) args [] ipos) body orelse pos) Q X σ := by
  intro z₀ zs z s hz hR
  have hg := hIn.g
  subst hg
  have hh := hIn.calm
  refine wpAny_For ?_ hs
  have ev : TT C z₀ (eval (.Call (.Name "enumerate" np) args [] ipos) C.env) (fun z val σ' => ∃ vs σ1, PEnum vs σ1.loc σ1.H z val σ' ∧ EnumH C (.Tuple [t1, t2] k tp) body orelse Q vs σ1) X σ := by
    rw [he]
    refine TT.bind (TT.mono (TE.name_builtin (Q := fun v σ2 => v = .con (.type "enumerate") ∧ σ2 = σ) ((hIn.kind _).trans hl) (hfr _ (by decide +kernel)) BI_enumerate ⟨rfl, rfl⟩ (by decide +kernel) (by decide +kernel) z₀) ?_)
    rintro z2 fx σ2 l2 ⟨_, rf, rfl, rfl⟩
    cases rf
    refine TT.callWith (.ty "enumerate") hp (TT.mono (h ipos z2) ?_)
    rintro z3 xs σ3 l3 ⟨us, rs, vs, rfl, q⟩
    refine TT.mono (TT.enumL rs) ?_
    exact fun z4 val σ4 l4 pe => ⟨vs, σ3, pe, q⟩
  refine wpAny_mono (ev zs z s hz hR) ?_ fun _ _ x => x
  rintro x s1 ⟨z1, σ1, l1, R1, vs, σ0, ⟨E, I, l, items, n, o, rfl, hzl, hr, ho, rfl⟩, Inv, i0, turn, fin⟩
  have hE1 : s1.heap.get? E = some (enumO I 0 .none) := (R1.rh.hH _ List.mem_cons_self).1
  obtain ⟨Ra, zE, apE⟩ := R1.drop1
  obtain ⟨Rb, zI, apI⟩ := Ra.drop1
  have hI1 : s1.heap.get? I = some o := (R1.rh.hH (I, _) (List.mem_cons_of_mem _ List.mem_cons_self)).1
  have hEI : E ≠ I := by
    have := R1.rh.nodup
    simp only [List.map_cons, List.nodup_cons, List.mem_cons, not_or] at this
    exact this.1.1
  have zsE := apE.1
  have zsI := apI.1
  have hRc : R C ((zs.put I o).put E (enumO I 0 .none)) σ0 z1 s1 := by
    have Rc := Rb.hideAt hI1 zI apI
    refine Rc.hideAt hE1 zE ⟨put_ne hEI zsE, apE.2.1, fun q => apE.2.2.1 (by rw [List.map_cons]; exact List.mem_cons_of_mem _ q), apE.2.2.2⟩
  have hlen : items.length = vs.length := hr.length
  refine wpAny_pyIter_enum hE1 ?_
  refine codeAny_loop' rfl (EnumI C zs z1 I E l Inv vs.length) (fun n' s' hi => ?_) vs.length ⟨0, σ0, z1, o, .none, rfl, Nat.zero_le _, Z.le_refl _, hRc, ho, i0⟩
  obtain ⟨i, σ', z', o', old, hn, hile, lz, R', hit, inv⟩ := hi
  have sE : Stays (enumO I i old) := Stays.fields rfl
  have sI : Stays o' := Stays.fields hit.2
  have hEat := R'.rh.hidden put_self sE
  have R'' : R C ((zs.put E (enumO I i old)).put I o') σ' z' s' := by rw [Z.put_comm hEI]; exact R'
  have hIat := R''.rh.hidden put_self sI
  show wpAny _ _ ((forTurn (.Tuple [t1, t2] k tp) (.ref E) body orelse C.env).onRaise (fun x => do noteFrame x C.env; theTreesLotGoes x)) _ _ s'
  refine wpAny_noted ?_
  simp only [forTurn]
  refine wpAny_bind (wpAny_standAt (wpAny_bind (wpAny_onRaise ?_)))
  have hl' : s'.heap.IsList l items.toArray := isList_of (R'.rh.hz _ _ (lz _ _ hzl))
  rcases Nat.lt_or_ge i vs.length with hlt | hge
  · have hv : vs[i]? = some vs[i] := List.getElem?_eq_getElem hlt
    obtain ⟨x, hx, rx⟩ := (hr.mono lz).get hv
    refine wpAny_pyNext_enum_item hEat ⟨o', hIat, hit.1, hit.2⟩ hl' (x := x) (by simpa using hx) hEI fun h1 heo hit1 ht1 hz1 hk1 => ?_
    obtain ⟨o1, e1, c1, d1⟩ := hit1
    have R1' : R C ((zs.put I o1).put E { cls := .type "enumerate", dict := none, data := .fields #[rawInt s'.heap.objs.size, .bool false, .ref I, rawInt ((i : Int) + 1), .none, x], slots := #[] }) σ' z' { s' with heap := h1, toks := s'.toks + 1 } :=
      R'.iter2 zsI zsE hEI hR.fr sI sE hk1 e1 heo
    have apT : Apart C ((zs.put I o').put E (enumO I i old)) σ' s'.heap.objs.size := R'.apart_new (Nat.le_refl _)
    have zT : z' s'.heap.objs.size = none := R'.rh.fresh_z (Nat.le_refl _)
    obtain ⟨nE, q1⟩ := put_none apT.1
    obtain ⟨nI, q2⟩ := put_none q1
    have lT := Z.le_put R1'.rh ht1
    have R2 := R1'.freeze ht1 ⟨put_ne nE (put_ne nI q2), apT.2⟩
    refine wpAny_bind (wpAny_letOwnedTupleGo_enum heo fun h2 he2 hs2 => ?_)
    have R3 : R C ((zs.put I o1).put E (enumO I ((i : Int) + 1) x)) σ' (z'.put s'.heap.objs.size { cls := .type "tuple", data := .seq #[.int (i : Int) s'.toks, x] }) { s' with heap := h2, toks := s'.toks + 1 } :=
      R2.iter (t := s'.toks + 1) (put_ne hEI zsE) (hR.fr.put zsI) (Stays.fields rfl) hs2.extBut he2
    have rt : Rep (z'.put s'.heap.objs.size { cls := .type "tuple", data := .seq #[.int (i : Int) s'.toks, x] }) (.tup [.int i, vs[i]]) (.ref s'.heap.objs.size) := .tup (n := 0) (items := [.int (i : Int) s'.toks, x]) put_self (.cons (.int _ _) (.cons (rx.mono lT) .nil))
    refine wpAny_bind (wpAny_mono (turn i _ σ' hv inv _ _ rt _ _ _ (Z.le_refl _) R3) ?_ fun _ _ x => x.absurd)
    rintro ⟨⟩ s3 ⟨z3, σ3, l3, R3, k3⟩
    refine wpAny_bind (wpAny_mono (k3 z3 _ _ _ (Z.le_refl _) R3) ?_ fun _ _ x => x.absurd)
    rintro f s4 ⟨z4, σ4, l4, R4, fl, rf, k4⟩
    have lz' := Z.le_trans (Z.le_trans (Z.le_trans lz lT) l3) l4
    have R5 : R C ((zs.put I o1).put E (enumO I ((i + 1 : Nat) : Int) x)) σ4 z4 s4 := by
      have e : ((i + 1 : Nat) : Int) = (i : Int) + 1 := by push_cast; rfl
      rw [e]; exact R4
    have again : Inv (i + 1) σ4 → ∃ m, m < n' ∧ EnumI C zs z1 I E l Inv vs.length m s4 := fun k4 =>
      ⟨vs.length - (i + 1), by omega, i + 1, σ4, z4, o1, x, rfl, by omega, lz', R5, ⟨c1, d1⟩, k4⟩
    have out : R C zs σ4 z4 s4 := by
      have Ro := R4.unhide (put_ne hEI zsE) (hR.fr.put zsI) (Stays.fields rfl) (t := s4.toks) (h' := s4.heap) fun b o _ e => e
      exact Ro.unhide zsI hR.fr (Stays.fields d1) (t := s4.toks) (h' := s4.heap) fun b o _ e => e
    cases rf with
    | next => exact wpAny_pure (.inl ⟨rfl, again k4⟩)
    | cont => exact wpAny_pure (.inl ⟨rfl, again k4⟩)
    | brk => exact wpAny_pure ⟨z4, σ4, Z.le_trans l1 lz', out, .next, .next, k4⟩
    | ret rw' => exact wpAny_pure ⟨z4, σ4, Z.le_trans l1 lz', out, .ret _, .ret rw', k4⟩
  · have he : i = vs.length := by omega
    subst he
    refine wpAny_pyNext_enum_end (A := C.A) hh hEat ⟨o', hIat, hit.1, hit.2⟩ hl' (by simp [hlen]) fun h' hx => ?_
    refine wpAny_pure (.inr ⟨rfl, codeAny_block ?_⟩)
    have Ro : R C (zs.put I o') σ' z' s' := R'.unhide (put_ne hEI zsE) (hR.fr.put zsI) sE (t := s'.toks) (h' := s'.heap) fun b o _ e => e
    have R5 : R C zs σ' z' { s' with heap := h' } := Ro.unhide zsI hR.fr sI hx
    refine wpAny_mono (fin σ' inv z' zs z' _ (Z.le_refl _) R5) ?_ fun _ _ x => x.absurd
    rintro f s4 ⟨z4, σ4, l4, R4, q⟩
    exact ⟨z4, σ4, Z.le_trans l1 (Z.le_trans lz l4), R4, q⟩
end
end PL

end
section
open PySem PySem.Calls PyProof.Rows
set_option Elab.async false
set_option linter.unusedVariables false
set_option linter.unusedSimpArgs false
set_option linter.unusedSectionVars false
set_option maxRecDepth 100000
namespace PL
/-! sets of truth values -/
noncomputable def hB (b : Bool) : Int := if b then 1 else 0
noncomputable def esB (f t : Bool) : Array (Int × Value) := (if f then #[(0, Value.bool false)] else #[]) ++ (if t then #[(1, Value.bool true)] else #[])
noncomputable def tbB (led f t : Bool) : SetTable := { mask := 7, place := (if f then #[0] else #[]) ++ (if t then #[1] else #[]), dummies := #[], finger := 0, led := led, moves := 0, plain := true }
noncomputable abbrev setO (led f t : Bool) (ep : Nat) : Obj := { cls := .type "set", dict := none, data := .set (esB f t) ep (tbB led f t), slots := #[] }
theorem layB (led f t b : Bool) (h : (if b then t else f) = false) : layNew (tbB led f t) (esB f t) (hB b) (.bool b) = (esB (f || !b) (t || b), tbB led (f || !b) (t || b), false, false) := by
  cases led <;> cases f <;> cases t <;> cases b <;> first | (simp at h; done) | (decide +kernel) | rfl
noncomputable def isB (k : Bool) (v : Value) : Bool := match v with
  | .bool b => b == k
  | _ => false
theorem isB_shape {k : Bool} {v : Value} (h : isB k v = true) : v = .bool k := by
  cases v <;> simp [isB] at h
  rw [h]
section
variable {prog : Program} {w : World} {A : Around} {E : Value → Shared → Prop} {s : Shared}
theorem pyHash_bool {b : Bool} {Q : Int → Shared → Prop} (h : Q (hB b) { s with toks := s.toks + 1 }) : wpAny (model prog w) A (pyHash (.bool b)) Q E s := by
  have hT : s.TypeIs (.bool b) "bool" := rfl
  unfold pyHash
  have hv : [Value.bool b].any Value.onHeap = false := rfl
  refine wpAny_bind ?_
  rw [cRoomFor, if_neg (by rw [hv]; exact Bool.false_ne_true)]; refine wpAny_pure ?_
  refine wpAny_bind (wpAny_specialOf hT PySem.F.slot_bool_hash.lookup ?_)
  show wpAny _ _ (if (some (Value.builtin "int.__hash__") == some Value.none) = true then _ else _) Q E s
  rw [if_neg (by rw [beq_builtin_none]; exact Bool.false_ne_true)]
  refine wpAny_bind (wpAny_specialOf hT PySem.F.slot_bool_hash.lookup ?_)
  show wpAny _ _ (callSpecialIfBoundUnlessNone? (.bool b) "__hash__" _ >>= _) Q E s
  cases b with
  | false =>
    refine wpAny_bind (wpAny_callSpecialIfBoundUnlessNone?_slot hT PySem.F.slot_bool_hash
      (wpAny_call_entry PySem.F.slot_bool_hash hT PySem.F.entry_int_hash
        (show wpAny _ _ (do ret (← mkInt 0)) _ _ s from wpAny_ret_mkInt ?_) (PySem.F.args_int_hash_1 _)))
    exact wpAny_pure h
  | true =>
    refine wpAny_bind (wpAny_callSpecialIfBoundUnlessNone?_slot hT PySem.F.slot_bool_hash
      (wpAny_call_entry PySem.F.slot_bool_hash hT PySem.F.entry_int_hash
        (show wpAny _ _ (do ret (← mkInt 1)) _ _ s from wpAny_ret_mkInt ?_) (PySem.F.args_int_hash_1 _)))
    exact wpAny_pure h
theorem eqB {a b : Bool} {u v : Value} {Q : Bool → Shared → Prop} (hu : isB a u = true) (hv : isB b v = true) (h : Q (decide (a = b)) s) : wpAny (model prog w) A (eqBool u v) Q E s := by
  rw [isB_shape hu, isB_shape hv]
  have e : decide (a = b) = (a == b) := by cases a <;> cases b <;> rfl
  rw [e] at h
  exact SeqAt.EqAt.bool_bool a b prog w E Q h
end
noncomputable def boolKind (prog : Program) (w : World) : PySem.KeyKind prog w Bool where
  is := isB
  hash := hB
  inj := fun v a b ha hb => by
    have h1 := isB_shape ha
    have h2 := isB_shape hb
    rw [h1] at h2; injection h2
  byValue := fun k v h => by rw [isB_shape h]; rfl
  pyHash := fun hv h => by rw [isB_shape hv]; exact pyHash_bool h
  eqBool := fun hu hv h => eqB hu hv h
  «strs» := fun k x t v h => by simp [isB] at h
theorem elB (prog : Program) (w : World) (f t : Bool) : ElemsOf (boolKind prog w) (esB f t).toList := by
  intro e he
  cases f <;> cases t <;> simp [esB] at he
  · subst he; exact ⟨⟨true, rfl, rfl⟩, rfl⟩
  · subst he; exact ⟨⟨false, rfl, rfl⟩, rfl⟩
  · rcases he with rfl | rfl
    · exact ⟨⟨false, rfl, rfl⟩, rfl⟩
    · exact ⟨⟨true, rfl, rfl⟩, rfl⟩
theorem fitB (led f t : Bool) : (tbB led f t).fits (esB f t).size = true := by cases led <;> cases f <;> cases t <;> decide
section
variable {prog : Program} {w : World} {A : Around} {E : Value → Shared → Prop} {s : Shared}
theorem inB : ∀ f t b : Bool, (if b then t else f) = true → (f || !b) = f ∧ (t || b) = t := by decide
theorem findB : ∀ f t b : Bool, (if b then t else f) = true → ((esB f t).toList.findIdx? fun e => isB b e.2).isSome = true := by decide
theorem findB0 : ∀ f t b : Bool, (if b then t else f) = false → ((esB f t).toList.findIdx? fun e => isB b e.2).isNone = true := by decide
theorem scanB : ∀ f t b : Bool, byScan (.bool b) (esB f t) = true := by decide +kernel
theorem fullB : ∀ led f t b : Bool, (!false && (tbB led (f || !b) (t || b)).tooFull) = false := by decide +kernel
theorem sizeB : ∀ f t b : Bool, (esB (f || !b) (t || b)).size ≤ 2 := by decide +kernel
theorem call_set_addB {a : Addr} {led f t b : Bool} {ep : Nat} {Q : Value → Shared → Prop} (ha : s.heap.get? a = some (setO led f t ep))
    (h : ∀ h' ep', Heap.SameBut a s.heap h' → h'.get? a = some (setO led (f || !b) (t || b) ep') → Q .none { s with heap := h', toks := s.toks + 1 }) :
    wpAny (model prog w) A (call (.builtin "set.add") [.ref a, .bool b]) Q E s := by
  have hT : s.TypeIs (.ref a) "set" := ⟨_, ha, rfl⟩
  refine wpAny_call_entry PySem.F.slot_set_add hT PySem.F.entry_set_add ?_ (PySem.F.args_set_add_2 _ _)
  unfold Builtin.«set.add» Builtin.Frozenset.oneOther
  simp only [List.isEmpty_nil, bind_assoc]
  unfold Builtin.Frozenset.addrOf setAdd
  refine wpAny_bind (wpAny_pure ?_)
  try dsimp only
  refine wpAny_bind (wpAny_pure ?_)
  try dsimp only
  refine wpAny_bind ?_
  refine wpAny_holding ?_
  refine wpAny_bind (pyHash_bool ?_)
  unfold setAddHashed setAddHashedIn
  have hel := elB prog w f t
  refine wpAny_holding (wpAny_bind (wpAny_setState_of (es := esB f t) (ep := ep) (t := tbB led f t) ha rfl (fitB led f t) ?_))
  dsimp only
  rw [scanB f t b, if_pos rfl]
  unfold setAddByScan
  refine wpAny_bind ?_
  refine wpAny_bind (wpAny_rule ?_)
  refine wpAny_bind (wpAny_setScan_of (knd := boolKind prog w) (k := b) (by simp [boolKind, isB]) ha rfl (fitB led f t) hel ?_)
  by_cases hin : (if b then t else f) = true
  · have hr : ∃ j, List.findIdx? (fun e => (boolKind prog w).is b e.2) (esB f t).toList = some j := Option.isSome_iff_exists.mp (findB f t b hin)
    obtain ⟨j, hr⟩ := hr
    rw [hr]
    refine wpAny_pure (wpAny_pure ?_)
    show wpAny _ _ (ret Value.none) _ _ _
    obtain ⟨e1, e2⟩ := inB f t b hin
    have := h s.heap ep (Heap.SameBut.refl a s.heap)
    rw [e1, e2] at this
    exact wpAny_pure ⟨_, rfl, this ha⟩
  · have hin : (if b then t else f) = false := by simpa using hin
    have hr : List.findIdx? (fun e => (boolKind prog w).is b e.2) (esB f t).toList = none := Option.isNone_iff_eq_none.mp (findB0 f t b hin)
    rw [hr]
    dsimp only
    have e0 : (boolKind prog w).hash b = hB b := rfl
    try rw [e0]
    rw [layB led f t b hin]
    dsimp only
    refine wpAny_bind (wpAny_pure ?_)
    have hp : (tbB led (f || !b) (t || b)).plain = true := rfl
    rw [hp]
    simp only [↓reduceIte]
    refine wpAny_bind ?_
    rw [hashByValue_scannable 8 rfl]
    refine wpAny_pure ?_
    have e3 : plainKind (.bool b) = true := rfl
    rw [e3]
    simp only [↓reduceIte]
    refine wpAny_bind (wpAny_storeSet_of ha rfl ?_ (Nat.le_trans (sizeB f t b) (by rw [sizeLine_eq]; decide)))
    rw [fullB led f t b]
    simp only [Bool.false_eq_true, ↓reduceIte]
    refine wpAny_pure (wpAny_pure ?_)
    show wpAny _ _ (ret Value.none) _ _ _
    refine wpAny_pure ⟨_, rfl, h _ (ep + 1) (Heap.SameBut.update ..) ?_⟩
    rw [Heap.get?_update_self _ ha rfl]
    rfl
theorem newSetB {Q : Value → Shared → Prop} (h : Q (.ref s.heap.objs.size) { s with heap := s.heap.push (setO (!(w.params.followText "set-order")) false false 0) }) : wpAny (model prog w) A (newSet (.type "set")) Q E s := by
  unfold newSet setsByText
  refine wpAny_bind (wpAny_bind (wpAny_askSetting (wpAny_pure ?_)))
  dsimp only
  simp only [newObj]
  exact wpAny_bind (wpAny_alloc (wpAny_pure h))
end
end PL

end
section
open PySem PySem.Calls PyProof.Rows
set_option Elab.async false
set_option linter.unusedVariables false
set_option linter.unusedSimpArgs false
set_option linter.unusedSectionVars false
set_option maxRecDepth 100000
namespace PL
/-! exceptions: made, caught, passed on -/
noncomputable def cutO (S : List Addr) (i : Nat) (o : Obj) : Obj := if i ∈ S then { o with data := .freed } else o
/-- the heap without some objects -/
noncomputable def cutH (h : Heap) (S : List Addr) : Heap := ⟨h.objs.mapIdx (cutO S), h.life⟩
theorem cut_get (h : Heap) (S : List Addr) (a : Addr) : (cutH h S).get? a = if a ∈ S then none else h.get? a := by
  unfold cutH Heap.get?
  simp only [Array.getElem?_mapIdx]
  cases e : h.objs[a]? with
  | none => simp
  | some o =>
    simp only [Option.map_some]
    unfold cutO
    by_cases hm : a ∈ S
    · rw [if_pos hm, if_pos hm]
    · rw [if_neg hm, if_neg hm]
noncomputable def frS (fr : List Env) : List Addr := fr.filterMap (·.frame)
section
variable {g : Gd} {zs : Z} {H : Led} {z : Z} {s : Shared}
/-- what is told of the frames of a call's state -/
structure Frs (zs : Z) (H : Led) (z : Z) (h : Heap) (fr : List Env) : Prop where
  ok : ∀ e ∈ fr, e.scope.kind ≠ .module ∧ ∃ L o, e.frame = some L ∧ h.get? L = some o ∧ (∃ es ep, o.data = .dict es ep) ∧ z L = none ∧ L ∉ H.map (·.1) ∧ ∀ o', zs L = some o' → ∃ es ep, o'.data = .dict es ep
theorem Frs.fun_ {h : Heap} {fr : List Env} (F : Frs zs H z h fr) {h' B : Heap} (k : ∀ b o, h.get? b = some o → h'.get? b = some o) (hB : ∀ b ∈ frS fr, B.get? b = none) : h'.FunFrames B fr := by
  have key : ∀ l : List Env, (∀ e ∈ l, e ∈ fr) → h'.FunFrames B l := by
    intro l
    induction l with
    | nil => intro _; trivial
    | cons env rest ih =>
      intro hl
      obtain ⟨a, L, o, b, c, ⟨es, ep, d⟩, _⟩ := F.ok env (hl env List.mem_cons_self)
      exact ⟨a, ⟨L, o, b, hB L (List.mem_filterMap.mpr ⟨env, hl env List.mem_cons_self, b⟩), k _ _ c, fun vs e => by rw [d] at e; cases e⟩, ih fun e he => hl e (List.mem_cons_of_mem _ he)⟩
  exact key fr fun _ h => h
theorem Frs.mem {h : Heap} {fr : List Env} (F : Frs zs H z h fr) {L : Addr} (hL : L ∈ frS fr) : z L = none ∧ L ∉ H.map (·.1) ∧ ∀ o', zs L = some o' → ∃ es ep, o'.data = .dict es ep := by
  obtain ⟨env, he, e⟩ := List.mem_filterMap.mp hL
  obtain ⟨_, L', o, b, c, d, x, y, w⟩ := F.ok env he
  rw [b] at e; cases e
  exact ⟨x, y, w⟩
/-- an exception just made -/
theorem Fly.made {fr : List Env} {h' : Heap} {tk : Nat} {e : Addr} {cls : String} (r : RH g zs H z s) (F : Frs zs H z s.heap fr) (x : Heap.NewExc s.heap h' e cls) : Fly g zs H z fr { s with heap := h', toks := tk } (.ref e) cls := by
  have hB : ∀ b o, (cutH s.heap (frS fr)).get? b = some o → s.heap.get? b = some o ∧ b ∉ frS fr := fun b o q => by
    rw [cut_get] at q
    split at q
    · cases q
    · rename_i hn; exact ⟨q, hn⟩
  have hB' : ∀ b o, s.heap.get? b = some o → b ∉ frS fr → (cutH s.heap (frS fr)).get? b = some o := fun b o q hn => by rw [cut_get, if_neg hn]; exact q
  obtain ⟨ob, tp, he, hc, hd⟩ := x.there
  refine ⟨e, cutH s.heap (frS fr), rfl, fun b o q => x.keeps _ _ (hB b o q).1, ?_, ?_, fun b o q => hB' b o (r.hz b o q) fun hm => ?_, fun p hp => ?_, fun b o q hn => ?_, ?_⟩
  · cases q : (cutH s.heap (frS fr)).get? e with
    | none => rfl
    | some o => have := (hB e o q).1; rw [x.new] at this; cases this
  · exact F.fun_ x.keeps fun b hb => by rw [cut_get, if_pos hb]
  · rw [(F.mem hm).1] at q; cases q
  · have hn : p.1 ∉ frS fr := fun hm => (F.mem hm).2.1 (List.mem_map_of_mem (f := (·.1)) hp)
    exact (r.hH p hp).1.keep fun o ho => hB' _ _ ho hn
  · obtain ⟨sl, q1, q2⟩ := r.hzs b o q
    have hn' : b ∉ frS fr := fun hm => by
      obtain ⟨es, ep, d⟩ := (F.mem hm).2.2 o q
      exact hn es ep d
    have := hB' b _ q1 hn'
    rw [this, q2 hn]
  · exact .inl ⟨ob, _, tp, he, hc, hd, rfl, rfl, rfl⟩
end
section
variable {C : Cx} {zs z : Z} {σ : St} {s : Shared}
/-- the frames of a context -/
theorem R.frs (hR : R C zs σ z s) : ∃ fr, C.A.frames = some fr ∧ Frs zs σ.H z s.heap fr := by
  have out : ∀ e ∈ C.outer, e.scope.kind ≠ .module ∧ ∃ L o, e.frame = some L ∧ s.heap.get? L = some o ∧ (∃ es ep, o.data = .dict es ep) ∧ z L = none ∧ L ∉ σ.H.map (·.1) ∧ ∀ o', zs L = some o' → ∃ es ep, o'.data = .dict es ep := by
    intro e he
    obtain ⟨a, L, o, b, c, d⟩ := hR.fr.ok e he
    obtain ⟨sl, q1, q2⟩ := hR.rh.hzs _ _ c
    refine ⟨a, L, _, b, q1, d, hR.rh.disj _ _ c, fun hm => ?_, fun o' e => ?_⟩
    · obtain ⟨p, hp, e⟩ := List.mem_map.mp hm
      have := (hR.rh.hH p hp).2.2
      rw [e, c] at this; cases this
    · rw [c] at e; cases e; exact d
  rcases C.hframes with ⟨a, b⟩ | a
  · refine ⟨_, a, ⟨fun e he => ?_⟩⟩
    rcases List.mem_cons.mp he with rfl | he
    · obtain ⟨m, ⟨oL, es, ep, hL, hdt, _⟩, _⟩ := hR.ns
      exact ⟨by rw [C.hk]; decide, _, oL, b, hL, ⟨es, ep, hdt⟩, hR.locFree.1, hR.locFree.2.2, fun o' e => by rw [hR.locFree.2.1] at e; cases e⟩
    · exact out e he
  · exact ⟨_, a, ⟨out⟩⟩
/-- the state up to slots -/
theorem R.slots (hR : R C zs σ z s) {h' : Heap} (r : RH C.g zs σ.H z { s with heap := h' }) (u : s.heap.UpToSlots h') : R C zs σ z { s with heap := h' } where
  rh := r
  ns := by
    obtain ⟨m, n, k⟩ := hR.ns
    obtain ⟨oL, es, ep, e1, e2, _⟩ := id n
    exact ⟨m, ns_slots n (fun o ho => by rw [e1] at ho; cases ho; exact u _ _ e1 fun vs q => by rw [e2] at q; cases q), k⟩
  cells x v h1 h2 := by
    obtain ⟨c, val, a, ⟨oc, b1, b2⟩, d⟩ := hR.cells x v h1 h2
    exact ⟨c, val, a, cell_slots ⟨oc, b1, b2⟩ (fun o ho => by rw [b1] at ho; cases ho; exact u _ _ b1 fun vs q => by rw [b2] at q; cases q), d⟩
  cellsOk p hp := by
    obtain ⟨⟨ov, oc, b1, b2⟩, r⟩ := hR.cellsOk p hp
    exact ⟨⟨ov, cell_slots ⟨oc, b1, b2⟩ fun o ho => by rw [b1] at ho; cases ho; exact u _ _ b1 fun vs q => by rw [b2] at q; cases q⟩, r⟩
  locFree := hR.locFree
  fr := hR.fr
end
/-! raw steps of an exception in its frame -/
section
variable {M : Model} {A : Around} {E : Value → Shared → Prop} {s : Shared}
/-- a new traceback entry: like the library's, but the exception's own fields are told -/
theorem entryX {base : Heap} {env : Env} {outer : List Env} {L e : Addr} {oe : Obj} {vs : Array Value} {head : Value} {hadNext : Bool} {Q : Unit → Shared → Prop}
    (hfr : A.frames = some (env :: outer)) (hl : s.heap.FunFrames base (env :: outer)) (hf : env.frame = some L)
    (he : s.heap.get? e = some oe) (hkb : base.StaysIn s.heap) (hen : base.get? e = none) (hd : oe.data = .fields vs) (hsz : 1 < vs.size)
    (h : ∀ h' T oT ts, base.StaysIn h' → h'.FunFrames base (env :: outer) → h'.get? e = some (oe.mapFields (·.setIfInBounds 1 (.ref T))) → base.get? T = none → T ≠ e → h'.get? T = some oT → oT.data = .fields ts → ts[3]? = some (rawInt L) →
      s.heap.UpToSlots h' → Q () { s with heap := h' }) :
    wpAny M A (do let a ← frameOf env; let pl ← entryPlaceOf L hadNext; let b ← EntryCells.newEntry head a .none (rawInt L) .none pl; setField (.ref e) 1 b) Q E s := by
  have hene : e ∉ (env :: outer).filterMap (·.frame) := fun hm => by
    obtain ⟨_, o, ho, hnf⟩ := hl.mem hm
    rw [he] at ho; injection ho with ho; subst ho; exact hnf vs hd
  refine wpAny_bind (wpAny_frameOf_fun hfr hl hf fun h₁ hs₁ => ?_)
  refine wpAny_bind (wpAny_entryPlaceOf fun pl hpl => ?_)
  unfold EntryCells.newEntry newFields
  refine wpAny_bind (wpAny_newObj_type ?_ (hpl.sizeOk5 _ _ _ _ _))
  have he₁ : h₁.get? e = some oe := (hs₁.2.1 e hene).trans he
  have kb₁ : base.StaysIn h₁ := fun b o hbo => (hs₁.2.1 b fun hm => by rw [(hl.mem hm).1] at hbo; cases hbo).trans (hkb b o hbo)
  have he₂ := Heap.get?_push_of_some (h := h₁) { cls := .type "traceback", dict := none, data := .fields ([head, .ref L, .none, rawInt L, .none] ++ (if pl.isEmpty then List.replicate 6 Value.none else pl)).toArray } he₁
  have hTe : h₁.objs.size ≠ e := Nat.ne_of_gt (Heap.lt_size he₁)
  have hd₃ := Obj.data_mapFields hd (·.setIfInBounds 1 (Value.ref h₁.objs.size))
  have he₃ := Heap.get?_update_self (Obj.mapFields (·.setIfInBounds 1 (Value.ref h₁.objs.size))) he₂ (Obj.isFreed_of_fields hd₃)
  have hT₃ := (Heap.get?_update_other (h₁.push { cls := .type "traceback", dict := none, data := .fields ([head, .ref L, .none, rawInt L, .none] ++ (if pl.isEmpty then List.replicate 6 Value.none else pl)).toArray })
    (Obj.mapFields (·.setIfInBounds 1 (Value.ref h₁.objs.size))) (Ne.symm hTe)).trans (Heap.get?_push_size h₁ rfl)
  have keep : ∀ b o, b ≠ e → h₁.get? b = some o →
      ((h₁.push { cls := .type "traceback", dict := none, data := .fields ([head, .ref L, .none, rawInt L, .none] ++ (if pl.isEmpty then List.replicate 6 Value.none else pl)).toArray }).update e (Obj.mapFields (·.setIfInBounds 1 (Value.ref h₁.objs.size)))).get? b = some o :=
    fun b o hbe hb => by
      rw [Heap.get?_update_other _ _ (Ne.symm hbe)]
      exact Heap.get?_push_of_some _ hb
  have noRecord : ∀ b o, s.heap.get? b = some o → (∀ vs, o.data ≠ .fields vs) → b ≠ e := fun b o hb hnf q => by
    rw [q, he] at hb; injection hb with hb; subst hb; exact hnf vs hd
  refine wpAny_setField he₂ hd hsz (h _ h₁.objs.size _ _ (fun b o hbo => keep b o (fun q => by rw [q, hen] at hbo; cases hbo) (kb₁ b o hbo)) (hl.of_keeps fun b o hb hnf => ?_) he₃ kb₁.fresh hTe hT₃ rfl ?_ fun b o hb hnf => ?_)
  · obtain ⟨sl, hs⟩ := hs₁.2.2 b o hb
    exact ⟨_, keep b _ (noRecord b o hb hnf) hs, rfl⟩
  · first | (simp; done) | (rcases hpl with rfl | ⟨_, _, _, _, _, _, _, rfl⟩ <;> simp)
  · obtain ⟨sl, hs⟩ := hs₁.2.2 b o hb
    exact ⟨sl, keep b _ (noRecord b o hb hnf) hs⟩
/-- the flight mark is set -/
theorem flightX {base : Heap} {l : List Env} {e T : Addr} {oe oT : Obj} {vs ts : Array Value} {fl : Option Addr} {Q : Unit → Shared → Prop} (hkb : base.StaysIn s.heap) (hl : s.heap.FunFrames base l)
    (he : s.heap.get? e = some oe) (hd : oe.data = .fields vs) (h1 : vs[1]? = some (.ref T)) (hnT : base.get? T = none) (hTe : T ≠ e) (hT : s.heap.get? T = some oT) (hdT : oT.data = .fields ts) (h3 : 3 < ts.size)
    (h : ∀ h' oT' ts', base.StaysIn h' → h'.FunFrames base l → h'.get? e = some oe → h'.get? T = some oT' → oT'.data = .fields ts' → ts'[3]? = some (fl.elim .none fun f => rawInt f) → s.heap.UpToSlots h' → Q () { s with heap := h' }) :
    wpAny M A (setFlight (.ref e) fl) Q E s := by
  have other : ∀ b, b ≠ T → (s.heap.update T (Obj.mapFields (·.setIfInBounds 3 (fl.elim Value.none fun f => rawInt f)))).get? b = s.heap.get? b :=
    fun b hb => Heap.get?_update_other _ _ (Ne.symm hb)
  have noRecord : ∀ b o, s.heap.get? b = some o → (∀ vs, o.data ≠ .fields vs) → b ≠ T := fun b o hb hnf q => by
    rw [q, hT] at hb; injection hb with hb; subst hb; exact hnf ts hdT
  unfold setFlight
  refine wpAny_bind (wpAny_field he hd h1 ?_)
  rw [if_pos (show (Value.ref T != Value.none) = true from by simp)]
  refine wpAny_setField hT hdT h3 (h _ _ _ (fun b o hbo => (other b fun q => by rw [q, hnT] at hbo; cases hbo).trans (hkb b o hbo))
    (hl.of_keeps fun b o hb hnf => ⟨o, (other b (noRecord b o hb hnf)).trans hb, rfl⟩) ((other e (Ne.symm hTe)).trans he) (Heap.get?_update_self _ hT (Obj.isFreed_of_fields (Obj.data_mapFields hdT _))) (Obj.data_mapFields hdT _) (by simp [h3])
    fun b o hb hnf => ⟨o.slots, (other b (noRecord b o hb hnf)).trans hb⟩)
end
/-! the exception caught: its record and its traceback entry are hidden -/
structure Caught (C : Cx) (zs : Z) (σ : St) (z : Z) (s : Shared) (a T : Addr) (oe oT : Obj) (vs ts : Array Value) (cls : String) : Prop where
  r : R C ((zs.put a oe).put T oT) σ z s
  za : zs a = none
  zT : zs T = none
  ne : T ≠ a
  cls : oe.cls = .type cls
  de : oe.data = .fields vs
  e1 : vs[1]? = some (.ref T)
  e0 : ∃ a0, vs[0]? = some a0
  dT : oT.data = .fields ts
  sz : 3 < ts.size
section
variable {C : Cx} {zs z : Z} {σ : St} {s : Shared} {a T : Addr} {oe oT : Obj} {vs ts : Array Value} {cls : String}
theorem Caught.he (K : Caught C zs σ z s a T oe oT vs ts cls) : s.heap.get? a = some oe := by
  have h := K.r.rh.hzs a oe (by rw [Z.put_comm (Ne.symm K.ne)]; exact put_self)
  obtain ⟨sl, e, k⟩ := h
  rw [e, k (Stays.fields K.de).2]
theorem Caught.hT (K : Caught C zs σ z s a T oe oT vs ts cls) : s.heap.get? T = some oT := K.r.rh.hidden put_self (Stays.fields K.dT)
theorem Caught.typeIs (K : Caught C zs σ z s a T oe oT vs ts cls) : s.TypeIs (.ref a) cls := ⟨oe, K.he, K.cls⟩
/-- a record that nobody knows of -/
theorem R.apartRec (hR : R C zs σ z s) {a : Addr} {o : Obj} {vs : Array Value} (e : s.heap.get? a = some o) (d : o.data = .fields vs) (hz : z a = none) (hzs : zs a = none) (hH : a ∉ σ.H.map (·.1)) : Apart C zs σ a := by
  refine ⟨hzs, fun q => ?_, hH, fun p hp q => ?_⟩
  · obtain ⟨m, ⟨oL, es, ep, hL, hdt, _⟩, _⟩ := hR.ns
    rw [← q, e] at hL; cases hL; rw [d] at hdt; cases hdt
  · obtain ⟨⟨ov, oc, b1, b2⟩, _⟩ := hR.cellsOk p hp
    rw [q, e] at b1; cases b1; rw [d] at b2; cases b2
/-- in the base: neither frozen nor hidden nor on the ledger -/
structure Base (g : Gd) (zs : Z) (H : Led) (z : Z) (B : Heap) : Prop where
  hz : ∀ b o, z b = some o → B.get? b = some o
  led : ∀ p ∈ H, AOK g z B p.1 p.2
  hid : ∀ b o, zs b = some o → (∀ vs ep, o.data ≠ .dict vs ep) → B.get? b = some o
theorem AOK.some {g : Gd} {h : Heap} {b : Addr} : ∀ {o : AO}, AOK g z h b o → ∃ x, h.get? b = Option.some x
  | .list _, ⟨_, _, ho, _⟩ => ⟨_, ho⟩
  | .dictS _, ⟨_, ⟨_, _, _, ho, _⟩, _⟩ => ⟨_, ho⟩
  | .dictI _, ⟨_, ⟨_, _, _, ho, _⟩, _⟩ => ⟨_, ho⟩
  | .raw _, ho => ⟨_, ho⟩
theorem Base.out {B : Heap} (b : Base C.g zs σ.H z B) (hR : R C zs σ z s) {x : Addr} {o : Obj} {vs : Array Value} (hB : B.get? x = none) (e : s.heap.get? x = some o) (d : o.data = .fields vs) : z x = none ∧ Apart C zs σ x := by
  have hz : z x = none := by
    cases q : z x with
    | none => rfl
    | some o' => rw [b.hz _ _ q] at hB; cases hB
  refine ⟨hz, hR.apartRec e d hz ?_ ?_⟩
  · cases q : zs x with
    | none => rfl
    | some o' =>
      obtain ⟨sl, e2, _⟩ := hR.rh.hzs _ _ q
      rw [e] at e2; cases e2
      have : B.get? x = some o' := b.hid _ _ q fun es ep k => by rw [show o'.data = .fields vs from d] at k; cases k
      rw [this] at hB; cases hB
  · intro hm
    obtain ⟨p, hp, q⟩ := List.mem_map.mp hm
    obtain ⟨y, hy⟩ := (b.led p hp).some
    rw [q, hB] at hy; cases hy
theorem Caught.mk' (hR : R C zs σ z s) {B : Heap} (b : Base C.g zs σ.H z B) (hBa : B.get? a = none) (hBT : B.get? T = none) (ea : s.heap.get? a = some oe) (eT : s.heap.get? T = some oT) (ne : T ≠ a) (hc : oe.cls = .type cls) (de : oe.data = .fields vs)
    (e1 : vs[1]? = some (.ref T)) (e0 : ∃ a0, vs[0]? = some a0) (dT : oT.data = .fields ts) (sz : 3 < ts.size) : Caught C zs σ z s a T oe oT vs ts cls := by
  obtain ⟨y1, y2⟩ := b.out hR hBa ea de
  obtain ⟨w1, w2⟩ := b.out hR hBT eT dT
  exact ⟨(hR.hideAt ea y1 y2).hideAt eT w1 ⟨put_ne ne w2.1, w2.2⟩, y2.1, w2.1, ne, hc, de, e1, e0, dT, sz⟩
/-- the flight mark of a caught exception is set -/
theorem Caught.flight {M : Model} {A : Around} {E : Value → Shared → Prop} {fl : Option Addr} {Q : Unit → Shared → Prop} (K : Caught C zs σ z s a T oe oT vs ts cls) (hfr : FrOK C.outer zs)
    (h : ∀ h' oT' ts', Caught C zs σ z { s with heap := h' } a T oe oT' vs ts' cls → ts'[3]? = some (fl.elim .none fun f => rawInt f) → Q () { s with heap := h' }) : wpAny M A (setFlight (.ref a) fl) Q E s := by
  unfold setFlight
  refine wpAny_bind (wpAny_field K.he K.de K.e1 ?_)
  rw [if_pos (show (Value.ref T != Value.none) = true from by simp)]
  refine wpAny_setField K.hT K.dT K.sz ?_
  have up := Heap.get?_update_self (Obj.mapFields (·.setIfInBounds 3 (fl.elim Value.none fun f => rawInt f))) K.hT (Obj.isFreed_of_fields (Obj.data_mapFields K.dT _))
  refine h _ _ _ ⟨K.r.iter (t := s.toks) (put_ne K.ne K.zT) (hfr.put K.za) (Stays.fields K.dT) (Heap.SameBut.update ..).extBut up, K.za, K.zT, K.ne, K.cls, K.de, K.e1, K.e0, Obj.data_mapFields K.dT _, by simpa using K.sz⟩ (by simp [K.sz])
/-- it is let go -/
theorem Caught.free (K : Caught C zs σ z s a T oe oT vs ts cls) (hfr : FrOK C.outer zs) : R C zs σ z s := by
  have R1 := K.r.unhide (put_ne K.ne K.zT) (hfr.put K.za) (Stays.fields K.dT) (t := s.toks) (h' := s.heap) fun b o _ e => e
  exact R1.unhide K.za hfr (Stays.fields K.de) (t := s.toks) (h' := s.heap) fun b o _ e => e
/-- it flies again, marked at this frame -/
theorem Caught.fly {env : Env} {outer : List Env} {L : Addr} (K : Caught C zs σ z s a T oe oT vs ts cls) (hfr : FrOK C.outer zs) (hA : C.A.frames = some (env :: outer)) (hf : env.frame = some L) (h3 : ts[3]? = some (rawInt L)) :
    Fly C.g zs σ.H z (env :: outer) s (.ref a) cls := by
  have hR := K.free hfr
  obtain ⟨fr, hfr1, F⟩ := hR.frs
  rw [hA] at hfr1; cases hfr1
  have hfrS : ∀ b ∈ frS (env :: outer), b ≠ a ∧ b ≠ T := by
    intro b hb
    obtain ⟨en, he, q⟩ := List.mem_filterMap.mp hb
    obtain ⟨_, L', o, x1, x2, ⟨es, ep, d⟩, _⟩ := F.ok en he
    rw [x1] at q; cases q
    refine ⟨fun q => ?_, fun q => ?_⟩
    · rw [q, K.he] at x2; cases x2; rw [K.de] at d; cases d
    · rw [q, K.hT] at x2; cases x2; rw [K.dT] at d; cases d
  let S := a :: T :: frS (env :: outer)
  have hB : ∀ b o, (cutH s.heap S).get? b = some o → s.heap.get? b = some o ∧ b ∉ S := fun b o q => by
    rw [cut_get] at q
    split at q
    · cases q
    · rename_i hn; exact ⟨q, hn⟩
  have hB' : ∀ b o, s.heap.get? b = some o → b ∉ S → (cutH s.heap S).get? b = some o := fun b o q hn => by rw [cut_get, if_neg hn]; exact q
  have hBn : ∀ b, b ∈ S → (cutH s.heap S).get? b = none := fun b hb => by rw [cut_get, if_pos hb]
  have outS : ∀ b, b ∉ S ∨ b = a ∨ b = T ∨ b ∈ frS (env :: outer) := fun b => by
    by_cases q : b ∈ S
    · rcases List.mem_cons.mp q with q | q
      · exact .inr (.inl q)
      · rcases List.mem_cons.mp q with q | q
        · exact .inr (.inr (.inl q))
        · exact .inr (.inr (.inr q))
    · exact .inl q
  have za : z a = none := K.r.rh.disj a oe (by rw [Z.put_comm (Ne.symm K.ne)]; exact put_self)
  have zT : z T = none := K.r.rh.disj T oT put_self
  have Ha : a ∉ σ.H.map (·.1) := fun hm => by
    obtain ⟨p, hp, q⟩ := List.mem_map.mp hm
    have := (K.r.rh.hH p hp).2.2
    rw [q, Z.put_comm (Ne.symm K.ne), put_self] at this; cases this
  have HT : T ∉ σ.H.map (·.1) := fun hm => by
    obtain ⟨p, hp, q⟩ := List.mem_map.mp hm
    have := (K.r.rh.hH p hp).2.2
    rw [q, put_self] at this; cases this
  obtain ⟨a0, e0⟩ := K.e0
  refine ⟨a, cutH s.heap S, rfl, fun b o q => (hB b o q).1, hBn a List.mem_cons_self, ?_, fun b o q => ?_, fun p hp => ?_, fun b o q hn => ?_, ?_⟩
  · exact F.fun_ (fun _ _ e => e) fun b hb => hBn b (List.mem_cons_of_mem _ (List.mem_cons_of_mem _ hb))
  · refine hB' b o (hR.rh.hz b o q) fun hm => ?_
    rcases outS b with k | k | k | k
    · exact k hm
    · rw [k, za] at q; cases q
    · rw [k, zT] at q; cases q
    · rw [(F.mem k).1] at q; cases q
  · have hn : p.1 ∉ S := fun hm => by
      have hp' := List.mem_map_of_mem (f := (·.1)) hp
      rcases outS p.1 with k | k | k | k
      · exact k hm
      · exact Ha (k ▸ hp')
      · exact HT (k ▸ hp')
      · exact (F.mem k).2.1 hp'
    exact (hR.rh.hH p hp).1.keep fun o ho => hB' _ _ ho hn
  · obtain ⟨sl, q1, q2⟩ := hR.rh.hzs b o q
    have hn' : b ∉ S := fun hm => by
      rcases outS b with k | k | k | k
      · exact k hm
      · rw [k, K.za] at q; cases q
      · rw [k, K.zT] at q; cases q
      · obtain ⟨es, ep, d⟩ := (F.mem k).2.2 o q
        exact hn es ep d
    have := hB' b _ q1 hn'
    rw [this, q2 hn]
  · exact .inr (.inr ⟨env, outer, L, a0, rfl, hf, oe, vs, T, oT, ts, K.he, ⟨K.cls, e0⟩, K.de, K.e1, hBn T (List.mem_cons_of_mem _ List.mem_cons_self), K.ne, K.hT, K.dT, h3⟩)
end
end PL

end
section
open PySem PySem.Calls PyProof.Rows
set_option Elab.async false
set_option linter.unusedVariables false
set_option linter.unusedSimpArgs false
set_option linter.unusedSectionVars false
set_option maxRecDepth 100000
namespace PL
/-! try -/
section
variable {C : Cx} {zs z : Z} {σ : St} {s : Shared} {cls : String} {E : Value → Shared → Prop} {Q : Unit → Shared → Prop}
theorem FlyB.base {g : Gd} {H : Led} {fr : List Env} {a : Addr} {B : Heap} (F : FlyB g zs H z fr s a cls B) : Base g zs H z B := ⟨F.hz, F.led, F.hid⟩
theorem R.after (hR : R C zs σ z s) {B h' : Heap} (b : Base C.g zs σ.H z B) (k : B.StaysIn h') (u : s.heap.UpToSlots h') : R C zs σ z { s with heap := h' } :=
  hR.slots (hR.rh.slots k b.hz b.led b.hid u) u
theorem catch_traced (hR : R C zs σ z s) {B h' : Heap} {a : Addr} {a0 : Value} (b : Base C.g zs σ.H z B) (hBa : B.get? a = none) (k : B.StaysIn h') (u : s.heap.UpToSlots h') (tr : h'.TracedW B a (.type cls) a0) :
    ∃ T oe oT vs ts, Caught C zs σ z { s with heap := h' } a T oe oT vs ts cls := by
  obtain ⟨oe, vs, T, oT, ts, e1, ⟨e2, e3⟩, e4, e5, e6, e7, e8, e9, e10⟩ := tr
  exact ⟨T, oe, oT, vs, ts, Caught.mk' (hR.after b k u) b hBa e6 e1 e8 e7 e2 e4 e5 ⟨a0, e3⟩ e9 (Array.getElem?_eq_some_iff.mp e10).1⟩
theorem catch_made {a : Addr} {oe : Obj} {vs : Array Value} {a0 : Value} {B : Heap} (hOwn : OwnFr C) (hR : R C zs σ z s) (b : Base C.g zs σ.H z B) (hst : B.StaysIn s.heap) (hff : s.heap.FunFrames B (C.env :: C.outer)) (hBa : B.get? a = none)
    (h1 : s.heap.get? a = some oe) (h2 : oe.cls = .type cls) (h3 : oe.data = .fields vs) (h4 : vs[1]? = some .none) (h5 : vs[0]? = some a0) (h6 : vs[2]? = some .none)
    (hQ : ∀ h' T oe oT vs ts, Caught C zs σ z { s with heap := h' } a T oe oT vs ts cls → vs[2]? = some .none → Q () { s with heap := h' }) :
    wpAny C.M C.A (noteFrame (.ref a) C.env) (fun _ s2 => wpAny C.M C.A (setFlight (.ref a) none) Q E s2) E s := by
  have hsz : 1 < vs.size := (Array.getElem?_eq_some_iff.mp h4).1
  unfold noteFrame
  simp only [hOwn.2]
  refine wpAny_bind (wpAny_field h1 h3 h4 ?_)
  rw [if_neg (by decide)]
  refine entryX hOwn.1 hff hOwn.2 h1 hst hBa h3 hsz fun h' T oT ts k1 k2 k3 k4 k5 k6 k7 k8 u => ?_
  have hd' := Obj.data_mapFields h3 (·.setIfInBounds 1 (Value.ref T))
  refine flightX (s := { s with heap := h' }) k1 k2 k3 hd' (by simp [hsz]) k4 k5 k6 k7 (Array.getElem?_eq_some_iff.mp k8).1 fun h'' oT' ts' m1 m2 m3 m4 m5 m6 u2 => ?_
  have u3 : s.heap.UpToSlots h'' := u.trans u2
  refine hQ h'' T _ oT' _ ts' (Caught.mk' (hR.after b m1 u3) b hBa k4 m3 m4 k5 ((Obj.cls_mapFields _ _).trans h2) hd' (by simp [hsz]) ⟨a0, by rw [Array.getElem?_setIfInBounds_ne (by decide)]; exact h5⟩ m5 (Array.getElem?_eq_some_iff.mp m6).1) ?_
  rw [Array.getElem?_setIfInBounds_ne (by decide)]; exact h6
theorem catch_ {e : Value} (hOwn : OwnFr C) (hR : R C zs σ z s) (F : Fly C.g zs σ.H z (C.env :: C.outer) s e cls)
    (hQ : ∀ h' a T oe oT vs ts, e = .ref a → Caught C zs σ z { s with heap := h' } a T oe oT vs ts cls → Q () { s with heap := h' }) :
    wpAny C.M C.A (noteFrame e C.env) (fun _ s2 => wpAny C.M C.A (setFlight e none) Q E s2) E s := by
  obtain ⟨a, B, rfl, F⟩ := F
  rcases F.track with ⟨oe, vs, a0, h1, h2, h3, h4, h5, h6⟩ | ⟨a0, tr⟩ | ⟨env', rest, L', a0, q1, q2, tr⟩
  · exact catch_made hOwn hR F.base F.stays F.frames F.new h1 h2 h3 h4 h5 h6 fun h' T oe oT vs ts K _ => hQ h' a T oe oT vs ts rfl K
  · refine wpAny_noteFrame_onW hOwn.1 F.frames hOwn.2 tr F.stays F.new fun h' k => ?_
    obtain ⟨k1, k2, k3, k4⟩ := k
    refine wpAny_setFlight_noneW (s := { s with heap := h' }) k1 k2 k3 fun h'' m1 m2 m3 m4 => ?_
    have u : s.heap.UpToSlots h'' := Heap.UpToSlots.trans k4 fun b o hb hn => ⟨o.slots, m4 b o hb hn⟩
    obtain ⟨T, oe, oT, vs, ts, K⟩ := catch_traced hR F.base F.new m1 u m3
    exact hQ h'' a T oe oT vs ts rfl K
  · cases q1
    rw [hOwn.2] at q2; cases q2
    refine wpAny_noteFrame_againW hOwn.2 tr ?_
    refine wpAny_setFlight_noneW F.stays F.frames tr fun h'' m1 m2 m3 m4 => ?_
    have u : s.heap.UpToSlots h'' := fun b o hb hn => ⟨o.slots, m4 b o hb hn⟩
    obtain ⟨T, oe, oT, vs, ts, K⟩ := catch_traced hR F.base F.new m1 u m3
    exact hQ h'' a T oe oT vs ts rfl K
end
/-- the context in a handler -/
noncomputable def Cx.mk_ (C : Cx) (a : Addr) : Cx := C.at_ (C.A.mark (some (.ref a))) C.n C.hdep C.hunits rfl
/-- what stands behind except, and whether a class falls under it -/
inductive ExcSpec (cls : String) : V → Bool → Prop
  | one {T : String} {b : Bool} (h1 : isSubtype (.type T) (.type "BaseException") = pure true) (h2 : isSubtype (.type ((Manifest.find? T).elim "type" fun x => x.metatype)) (.type "tuple") = pure false) (h3 : isSubtype (.type cls) (.type T) = pure b) : ExcSpec cls (.con (.type T)) b
  | two {T U : String} {b c : Bool} (h1 : isSubtype (.type T) (.type "BaseException") = pure true) (h3 : isSubtype (.type cls) (.type T) = pure b) (k1 : isSubtype (.type U) (.type "BaseException") = pure true) (k3 : isSubtype (.type cls) (.type U) = pure c) :
      ExcSpec cls (.tup [.con (.type T), .con (.type U)]) (b || c)
theorem excMatches_two {M : Model} {A : Around} {E : Value → Shared → Prop} {s : Shared} {e : Value} {X T U : String} {b c : Bool} {t : Addr} {k : Nat} {Q : Bool → Shared → Prop} (hX : s.TypeIs e X) (ht : s.heap.get? t = some (tupO [.type T, .type U] k))
    (h1 : isSubtype (.type T) (.type "BaseException") = pure true) (h3 : isSubtype (.type X) (.type T) = pure b) (k1 : isSubtype (.type U) (.type "BaseException") = pure true) (k3 : isSubtype (.type X) (.type U) = pure c) (h : Q (b || c) s) :
    wpAny M A (excMatches e (.ref t)) Q E s := by
  obtain ⟨hp, g, d, tk, os⟩ := s
  have hT : Shared.TypeIs ⟨hp, g, d, tk, os⟩ (.ref t) "tuple" := ⟨_, ht, rfl⟩
  have f2 := sub_tuple_tuple
  unfold excMatches
  wp_walk using AutoSeq1.wpAny_loadPart' ht
  cases b with
  | true => wp_walk; exact h
  | false =>
    wp_walk
    cases c with
    | true => wp_walk; exact h
    | false => wp_walk; exact h
section
variable {C : Cx} {zs z : Z} {σ : St} {s : Shared} {cls : String} {a : Addr}
theorem R.toMk (r : R C zs σ z s) : R (C.mk_ a) zs σ z s := R.to r
theorem R.ofMk (r : R (C.mk_ a) zs σ z s) : R C zs σ z s := R.from r
theorem excMatches_spec {M : Model} {A : Around} {E : Value → Shared → Prop} {e c : Value} {v : V} {b : Bool} {Q : Bool → Shared → Prop} (S : ExcSpec cls v b) (hR : R C zs σ z s) (r : Rep z v c) (hX : s.TypeIs e cls) (h : Q b s) : wpAny M A (excMatches e c) Q E s := by
  cases S with
  | one h1 h2 h3 => have rq := r.e; clear r; obtain ⟨_, rfl⟩ := rq; exact wpAny_excMatches_type hX h1 h2 h3 h
  | two h1 h3 k1 k3 =>
    have rq := r.e; clear r; obtain ⟨_, _, _, rfl, e, hr⟩ := rq
    have hrq := RepL.inv hr; clear hr; obtain ⟨_, _, rfl, r1, t⟩ := hrq
    have tq := RepL.inv t; clear t; obtain ⟨_, _, rfl, r2, t⟩ := tq
    cases t.inv0; clear t; have r1q := r1.e; clear r1; obtain ⟨_, rfl⟩ := r1q; have r2q := r2.e; clear r2; obtain ⟨_, rfl⟩ := r2q
    exact excMatches_two hX (hR.rh.hz _ _ e) h1 h3 k1 k3 h
/-- what the clauses do with an exception of this class; no suite raises -/
noncomputable def Hand (C : Cx) (cls : String) (Q : Fl → St → Prop) (X : XP) (σ : St) : List ExceptHandler → Prop
  | [] => X cls σ
  | .ExceptHandler (some t) none (b₀ :: suite) pos :: rest => ∃ v b, ExcSpec cls v b ∧ (∀ a, TE (C.mk_ a) t (fun u σ' => u = v ∧ σ' = σ) X0 σ) ∧
      if b = true then ∀ a, TSs (C.mk_ a) (b₀ :: suite) Q X0 σ else Hand C cls Q X σ rest
  | _ => False
theorem handleH {T : Addr} {Q : Fl → St → Prop} {X : XP} (hOwn : OwnFr C) : ∀ (hs : List ExceptHandler) {z : Z} {s : Shared} {oe oT : Obj} {vs ts : Array Value}, Hand C cls Q X σ hs → FrOK C.outer zs → Caught C zs σ z s a T oe oT vs ts cls →
    wpAny C.M C.A (handleBy (.ref a) C.env hs) (Post C zs z (PFl Q)) (PX C zs z X) s
  | [], z, s, oe, oT, vs, ts, h, hfr, K => by
    refine wpAny_handleBy_nil ?_
    unfold PySem.passOn
    refine wpAny_bind (wpAny_field K.he K.de K.e1 ?_)
    rw [if_neg (by simp)]
    refine wpAny_bind (K.flight hfr fun h' oT' ts' K' h3 => ?_)
    rw [hOwn.2] at h3
    exact wpAny_throw ⟨z, σ, cls, _, Z.le_refl _, K'.free hfr, hOwn.1, K'.fly hfr hOwn.1 hOwn.2 h3, h⟩
  | .ExceptHandler none _ _ _ :: _, _, _, _, _, _, _, h, _, _ => h.elim
  | .ExceptHandler (some _) (some _) _ _ :: _, _, _, _, _, _, _, h, _, _ => h.elim
  | .ExceptHandler (some _) none [] _ :: _, _, _, _, _, _, _, h, _, _ => h.elim
  | .ExceptHandler (some t) none (b₀ :: suite) pos :: rest, z, s, oe, oT, vs, ts, h, hfr, K => by
    obtain ⟨v, b, S, ht, hb⟩ := h
    refine wpAny_handleBy_cons (codeAny_handlers_test (wpAny_mono (ht a z _ z s (Z.le_refl _) K.r.toMk) (fun c s1 h1 => ?_) fun _ _ x => x.absurd)) (by intro q; cases q)
    obtain ⟨z1, σ1, l1, R1, u, ru, hu, hσ⟩ := h1
    rw [hσ] at R1
    rw [hu] at ru
    have K1 : Caught C zs σ z1 s1 a T oe oT vs ts cls := ⟨R1.ofMk, K.za, K.zT, K.ne, K.cls, K.de, K.e1, K.e0, K.dT, K.sz⟩
    refine excMatches_spec S R1 ru K1.typeIs ?_
    cases b with
    | false =>
      rw [if_neg Bool.false_ne_true]
      rw [if_neg Bool.false_ne_true] at hb
      refine wpAny_mono (handleH hOwn rest hb hfr K1) ?_ fun _ _ x => PX.le l1 x
      rintro f s2 ⟨z2, σ2, l2, R2, q⟩
      exact ⟨z2, σ2, Z.le_trans l1 l2, R2, q⟩
    | true =>
      rw [if_pos rfl]
      rw [if_pos rfl] at hb
      refine codeAny_handlers_suite (K1.flight hfr fun h' oT' ts' K' _ => ?_)
      refine wpAny_mono (hb a z1 _ z1 _ (Z.le_refl _) K'.r.toMk) ?_ fun _ _ x => x.absurd
      rintro f s3 ⟨z3, σ3, l3, R3, q⟩
      have K3 : Caught C zs σ3 z3 s3 a T oe oT' vs ts' cls := ⟨R3.ofMk, K.za, K.zT, K.ne, K.cls, K.de, K.e1, K.e0, K'.dT, K'.sz⟩
      exact ⟨z3, σ3, Z.le_trans l1 l3, K3.free hfr, q⟩
/-- try with clauses -/
theorem TS.try_ {body orelse : List Stmt} {h₀ : ExceptHandler} {hs : List ExceptHandler} {pos : Pos} {Q : Fl → St → Prop} {X : XP} (hOwn : OwnFr C) (h : TSs C body (Nx C orelse Q X) (fun cls σ1 => Hand C cls Q X σ1 (h₀ :: hs)) σ) :
    TS C (.Try body (h₀ :: hs) orelse [] pos) Q X σ := by
  intro z₀ zs z s hz hR
  refine wpAny_Try_except ?_
  refine wpAny_mono (h z₀ zs z s hz hR) ?_ ?_
  · rintro f s1 ⟨z1, σ1, l1, R1, fl, rf, q⟩
    cases rf with
    | next =>
      refine wpAny_mono (q z1 zs z1 s1 (Z.le_refl _) R1) ?_ fun _ _ x => PX.le l1 x
      rintro f s2 ⟨z2, σ2, l2, R2, q2⟩
      exact ⟨z2, σ2, Z.le_trans l1 l2, R2, q2⟩
    | brk => exact ⟨z1, σ1, l1, R1, .brk, .brk, q⟩
    | cont => exact ⟨z1, σ1, l1, R1, .cont, .cont, q⟩
    | ret rv => exact ⟨z1, σ1, l1, R1, .ret _, .ret rv, q⟩
  · rintro e s1 ⟨z1, σ1, cls, fr, l1, R1, hf, F, hX⟩
    rw [hOwn.1] at hf; cases hf
    refine catch_ hOwn R1 F fun h' a T oe oT vs ts he K => ?_
    subst he
    refine wpAny_mono (handleH hOwn _ hX hR.fr K) ?_ fun _ _ x => PX.le l1 x
    rintro f s2 ⟨z2, σ2, l2, R2, q⟩
    exact ⟨z2, σ2, Z.le_trans l1 l2, R2, q⟩
end
end PL

end
section
open PySem PySem.Calls PyProof.Rows
set_option Elab.async false
set_option linter.unusedVariables false
set_option linter.unusedSimpArgs false
set_option linter.unusedSectionVars false
set_option maxRecDepth 100000
namespace PL
/-! a set of truth values, comprehended -/
noncomputable def ledOf (C : Cx) : Bool := !(C.g.w.params.followText "set-order")
theorem compTurn_set (elt target iter : Expr) (ifs : List Expr) (scope : Scope) (pos : Pos) (it acc : Value) (env : Env) :
    compTurn (.SetComp elt [⟨target, iter, ifs, 0⟩] scope pos) 0 it acc env = (do
      standAt iter.pos
      match ← pyNext it with
      | none => pure (.done .next)
      | some v =>
        letOwnedTupleGo target it v
        assign target env v
        let mut ok := true
        for c in ifs do
          if ok then ok ← isTrue c env (eval c env)
        if ok then
          (do let v ← eval elt env; standAt elt.pos; let _ ← call (.builtin "set.add") [acc, v])
        again (.compLoop (.SetComp elt [⟨target, iter, ifs, 0⟩] scope pos) 0 it acc env)) := by rfl
section
variable {prog : Program} {w : World} {A : Around} {R : Result → Shared → Prop} {s : Shared}
theorem codeAny_compStart_set {elt target iter : Expr} {ifs : List Expr} {rest : List Comprehension} {scope : Scope} {pos : Pos} {it acc : Value} {env : Env}
    (h0 : codeAny (model prog w) A (.compLoop (.SetComp elt (⟨target, iter, ifs, 0⟩ :: rest) scope pos) 0 it acc env) R s)
    (h : wpAny (model prog w) A (pyIter it) (fun it' s' => codeAny (model prog w) A (.compLoop (.SetComp elt (⟨target, iter, ifs, 0⟩ :: rest) scope pos) 0 it' acc env) R s')
      (notedBy (model prog w) A env fun x s' => R (.error x) s') s) :
    codeAny (model prog w) A (.compStart (.SetComp elt (⟨target, iter, ifs, 0⟩ :: rest) scope pos) 0 it acc env) R s := by
  refine codeAny_of_tree ?_
  show wpAny _ _ ((compStart (.SetComp elt (⟨target, iter, ifs, 0⟩ :: rest) scope pos) 0 it acc env).onRaise (fun x => do noteFrame x env; standAt theWindowsPlace)) _ _ s
  refine wpAny_notedAt ?_
  unfold compStart
  show wpAny _ _ (ask >>= _) _ _ s
  refine wpAny_bind (wpAny_askSetting (wpAny_ite ?_))
  split
  · first
      | exact wpAny_bind (wpAny_pure (wpAny_pure (And.intro rfl h0)))
      | exact wpAny_pure (And.intro rfl h0)
  · first
      | exact wpAny_bind (wpAny_rule (wpAny_bind (wpAny_standAt (wpAny_bind (wpAny_mono h (fun it' s' h' => wpAny_pure (And.intro rfl h')) fun _ _ x => x)))))
      | (refine wpAny_bind (wpAny_rule ?_); show wpAny _ _ (standAt iter.pos >>= _) _ _ s; exact wpAny_bind (wpAny_standAt (wpAny_bind (wpAny_mono h (fun it' s' h' => wpAny_pure (And.intro rfl h')) fun _ _ x => x))))
end
section
variable {C : Cx} {X : XP} {σ : St}
inductive SetI (C' : Cx) (zz z1 : Z) (I D : Addr) (J : Nat → Obj → Prop) (N : Nat) (F : Nat → Nat → Obj) (σ0 : St) (m : Nat) (s' : Shared) : Prop
  | mk (i : Nat) (z' : Z) (σ' : St) (o : Obj) (ep : Nat) (hm : m = N - i) (hi : i ≤ N) (lz : Z.le z1 z') (r : R C' ((zz.put I o).put D (F i ep)) σ' z' s') (le : Le σ0 σ') (hJ : J i o)
inductive CompB (C : Cx) (g : Gd) (n : Nat) (sc scope : Scope) (target elt : Expr) (Q : V → St → Prop) (v : V) (σ1 : St) : Prop
  | mk (α : Type) (xs : List α) (φ : α → V) (f : α → Bool) (L : List (Str × V)) (H0 : Led) (S : Led → Prop) (w : Walk C v (xs.map φ) S) (hS : ∀ H', H0.Sublist H' → S H') (hH : H0.Sublist σ1.H)
    (hL : ∀ x u, L.lookup x = some u → σ1.loc.lookup x = some u ∧ (x, NameKind.free) ∈ scope.names) (hl : xs.length ≤ 16777216)
    (turn : ∀ C', In C' g n (relabelS scope sc) → ∀ x ∈ xs, CTurn C' target [] elt (φ x) (some (.bool (f x))) X0 ⟨L, H0⟩)
    (k : ∀ a ep, Q (.ref a) ⟨σ1.loc, (a, .raw (setO (ledOf C) (xs.any fun x => !f x) (xs.any f) ep)) :: H0⟩)
theorem TT.setcompB {g : Gd} {n : Nat} {sc scope : Scope} {elt target iter : Expr} {pos : Pos} {z₀ : Z} {Q : V → St → Prop} (hIn : In C g n sc) (K : CompOK scope sc)
    (h : TE C iter (CompB C g n sc scope target elt Q) X σ)
    (hs : ∀ x, foldedSetIterable iter C.env x = Pure.pure x := by intro _; rfl) : TT C z₀ (eval (.SetComp elt [⟨target, iter, [], 0⟩] scope pos) C.env) (PVal Q) X σ := by
  show TT C z₀ (comprehension (.SetComp elt [⟨target, iter, [], 0⟩] scope pos) scope C.env (firstIterPos [⟨target, iter, [], 0⟩] pos) (newSet (.type "set")) (firstAsync [⟨target, iter, [], 0⟩]) (firstIter [⟨target, iter, [], 0⟩] C.env) none) (PVal Q) X σ
  intro zs z s hz hR
  have hclo : ∀ x ∈ scope.names, x.2 = .free → ∃ c, C.env.cells.lookup x.1 = some c := fun x hx hf => hIn.cell _ (K.free x hx hf)
  have hnames : ∀ x ∈ scope.names, x.2 = .local → scope.names.lookup x.1 = some .local := fun x hx hl => by rw [← hl]; exact lookup_of_nodup K.nodup hx
  refine wpAny_comprehension_free (g := ⟨target, iter, [], 0⟩) (use := none) (gs := []) rfl hs (closureFor_closOf hclo) K.kind hnames ?_
  show wpAny _ _ (eval iter C.env) _ _ s
  refine wpAny_mono (h z₀ zs z s hz hR) ?_ fun _ _ x => x
  rintro x s1 ⟨z1, σ1, l1, R1, v, rv, α, xs, φ, f, L, H0, S, W, hS, hH0, hL, hlen, turn, fin⟩
  obtain ⟨J, WO, st⟩ := W.start z1 x rv
  have WO := WO C.A hIn.calm
  refine st zs z1 σ1 s1 _ _ (Z.le_refl _) R1 (hS _ hH0) fun o hJ hfr => ?_
  refine newSetB ?_
  refine wpAny_newFunctionEnv K.nocell (by intro x hx; simp at hx) (fun h4 hns hsb => ?_) K.kind
  have szI : (s1.heap.push o).objs.size = s1.heap.objs.size + 1 := Heap.size_push ..
  have szD : ((s1.heap.push o).push (setO (ledOf C) false false 0)).objs.size = s1.heap.objs.size + 2 := by rw [Heap.size_push, szI]
  dsimp only at hns hsb ⊢
  rw [show (!C.g.w.params.followText "set-order") = ledOf C from rfl] at hns hsb ⊢
  rw [szD] at hns hsb ⊢
  rw [szI]
  have lo : ∀ b o', b < s1.heap.objs.size + 2 → ((s1.heap.push o).push (setO (ledOf C) false false 0)).get? b = some o' → h4.get? b = some o' := fun b o' hb e =>
    (hsb.2 b (Nat.ne_of_lt hb)).trans (Heap.get?_push_of_some _ e)
  have eI : h4.get? s1.heap.objs.size = some o := lo _ _ (by omega) (Heap.get?_push_of_some _ (Heap.get?_push_size _ hfr))
  have eD : h4.get? (s1.heap.objs.size + 1) = some (setO (ledOf C) false false 0) := lo _ _ (by omega) (by have := Heap.get?_push_size (h := s1.heap.push o) (o := setO (ledOf C) false false 0) rfl; rw [szI] at this; exact this)
  have old : ∀ b o', s1.heap.get? b = some o' → h4.get? b = some o' := fun b o' e => lo _ _ (Nat.lt_of_lt_of_le (Heap.lt_size e) (Nat.le_add_right _ 2)) (Heap.get?_push_of_some _ (Heap.get?_push_of_some _ e))
  have fz : ∀ a, s1.heap.objs.size ≤ a → z1 a = none := fun a ha => R1.rh.fresh_z ha
  have fa : ∀ a, s1.heap.objs.size ≤ a → Apart C zs ⟨σ1.loc, H0⟩ a := fun a ha => let ⟨a1, a2, a3, a4⟩ := R1.apart_new ha; ⟨a1, a2, fun e => a3 ((hH0.map _).subset e), a4⟩
  have R4 : R C zs ⟨σ1.loc, H0⟩ z1 { s1 with heap := h4, toks := s1.toks + ([] : List (Str × Value)).length } := (R1.grow old).weaken (fun _ _ h => h) hH0
  generalize hs4 : ({ s1 with heap := h4, toks := s1.toks + ([] : List (Str × Value)).length } : Shared) = s4 at R4 ⊢
  have hh4 : s4.heap = h4 := by rw [← hs4]
  generalize hLc : s1.heap.objs.size + 2 = Lc at *
  generalize hD : s1.heap.objs.size + 1 = D at *
  generalize hI : s1.heap.objs.size = I at *
  have hID : I ≠ D := by omega
  have hIL : Lc ≠ I := by omega
  have hDL : Lc ≠ D := by omega
  obtain ⟨fr, hfrA, hfrOK⟩ := R4.frames
  have fr0 : FrOK fr (hid C zs s4.heap) := hfrOK _ fun _ _ e => e
  have hidn : ∀ a, I ≤ a → hid C zs s4.heap a = none := fun a ha => by
    obtain ⟨a1, a2, a3, a4⟩ := fa a ha
    exact hid_none a2 (fun e => by obtain ⟨p, hp, e⟩ := List.mem_map.mp e; exact a4 p hp e) a1
  have r0 := R4.hide
  have rI := r0.hideAt (by rw [hh4]; exact eI) (fz I (Nat.le_refl _)) (hidn I (Nat.le_refl _)) (fa I (Nat.le_refl _)).2.2.1
  have rD := rI.hideAt (by rw [hh4]; exact eD) (fz D (by omega)) (put_ne (Ne.symm hID) (hidn D (by omega))) (fa D (by omega)).2.2.1
  let C' : Cx := {
    g := C.g, A := C.A, env := compEnvC scope (closOf scope.names C.env.cells []) Lc C.env, outer := fr, n := C.n
    ro := scope.names.map (·.1)
    hk := K.kind
    hglob := C.hglob, hbuilt := C.hbuilt, hdep := C.hdep, hunits := C.hunits, hframes := .inr hfrA
    apart := by
      have hp := closOf_pair scope.names C.env.cells [] K.nodup List.Pairwise.nil (fun _ h => by cases h)
      have hmem : ∀ p ∈ closOf scope.names C.env.cells [], p ∈ C.env.cells := by
        intro p hp
        rcases closOf_mem _ _ _ p hp with h | ⟨h1, h2⟩
        · cases h
        · obtain ⟨c, hc⟩ := hclo _ h1 rfl
          have hc : C.env.cells.lookup p.1 = some c := hc
          rw [hc] at h2
          have := mem_of_lookup' hc
          have e : p = (p.1, c) := by rw [← show p.2 = c from h2]
          rw [e]; exact this
      have : ∀ l : List (Str × Addr), l.Pairwise (fun x y => x.1 ≠ y.1) → (∀ p ∈ l, p ∈ C.env.cells) → l.Pairwise (fun x y => x.2 ≠ y.2) := by
        intro l hl hm
        refine List.Pairwise.imp_of_mem ?_ hl
        intro a b ha hb hab e
        refine hab (name_of_addr C.apart (c := b.2) ?_ (hm b hb))
        rw [← e]; exact hm a ha
      exact this _ hp hmem }
  have hcell' : ∀ p ∈ closOf scope.names C.env.cells [], (p.1, NameKind.free) ∈ scope.names ∧ p ∈ C.env.cells := by
    intro p hp
    rcases closOf_mem _ _ _ p hp with h | ⟨h1, h2⟩
    · cases h
    · obtain ⟨c, hc⟩ := hclo _ h1 rfl
      have hc : C.env.cells.lookup p.1 = some c := hc
      rw [hc] at h2
      have := mem_of_lookup' hc
      have e : p = (p.1, c) := by rw [← show p.2 = c from h2]
      exact ⟨h1, by rw [e]; exact this⟩
  have hIn' : In C' g n (relabelS scope sc) := ⟨hIn.g, hIn.n, fun x => by show (relabel scope C.env).names.lookup x = _; rw [relabel_eq hIn.fn], fun x hx => by
      have hm := relabel_cell K hx
      obtain ⟨c, hc⟩ := hclo _ hm rfl
      exact ⟨c, closOf_lookup _ _ _ _ _ K.nodup hm hc⟩, hIn.calm, relabel_eq hIn.fn, hIn.gl⟩
  have cellNe : ∀ p ∈ C.env.cells, p.2 < I := by
    intro p hp
    obtain ⟨⟨ov, ic⟩, _⟩ := R1.cellsOk p hp
    exact hI ▸ ic.lt
  have kindL : ∀ x u, L.lookup x = some u → C'.env.kindOf x = some .cell := fun x u hx => by
    rw [hIn'.kind]; exact relabel_free K (hL x u hx).2
  have R0 : R C' (((hid C zs s4.heap).put I o).put D (setO (ledOf C) false false 0)) ⟨L, H0⟩ z1 s4 := by
    refine ⟨rD, ⟨_, by rw [hh4]; exact hns, fun x u hx hk => ?_⟩, fun x u hx hk => ?_, fun p hp => ?_, ⟨fz _ (by show I ≤ Lc; omega), put_ne hDL (put_ne hIL (hidn Lc (by omega))), (fa Lc (by omega)).2.2.1⟩, ?_⟩
    · rw [kindL x u hx] at hk; cases hk
    · obtain ⟨h1, h2⟩ := hL x u hx
      have hk1 : C.env.kindOf x = some .cell := (hIn.kind x).trans (K.free _ h2 rfl)
      obtain ⟨c, val, e1, e2, e3⟩ := R4.cells x u h1 (by rw [hk1]; rfl)
      exact ⟨c, val, closOf_lookup _ _ _ _ _ K.nodup h2 e1, e2, e3⟩
    · obtain ⟨h1, h2⟩ := hcell' p hp
      obtain ⟨a, b, _, d, e⟩ := R4.cellsOk p h2
      exact ⟨a, b, .inr (List.mem_map_of_mem (f := (·.1)) h1), Nat.ne_of_lt (Nat.lt_of_lt_of_le (cellNe p h2) (show I ≤ Lc by omega)), e⟩
    · exact (fr0.put (hidn I (Nat.le_refl _))).put (put_ne (Ne.symm hID) (hidn D (by omega)))
  have hI0 := hidn I (Nat.le_refl _)
  have hD0 := hidn D (by omega)
  have sSet : ∀ f t ep, Stays (setO (ledOf C) f t ep) := fun f t ep => ⟨fun _ e => (by cases e), fun _ _ e => (by cases e)⟩
  have loop : codeAny C.M C.A (.compLoop (.SetComp elt [⟨target, iter, [], 0⟩] scope pos) 0 (.ref I) (.ref D) C'.env)
      (compPost C.M C.A (PX C zs z X) none (Post C zs z (PVal Q)) (.ref D) Lc) s4 := by
    generalize hRes : compPost C.M C.A (PX C zs z X) none (Post C zs z (PVal Q)) (.ref D) Lc = Res
    refine codeAny_loop rfl (SetI C' (hid C zs s4.heap) z1 I D J xs.length (fun i ep => setO (ledOf C) ((xs.take i).any fun x => !f x) ((xs.take i).any f) ep) ⟨L, H0⟩)
      (fun m s' hi => ?_) xs.length ⟨0, z1, _, o, 0, rfl, Nat.zero_le _, Z.le_refl _, R0, Le.refl _, hJ⟩
    obtain ⟨i, z', σ', o', ep, hm, hile, lz, R', le', hJ'⟩ := hi
    obtain ⟨fs, hfs⟩ := WO.fields _ _ hJ'
    have stay := Stays.fields hfs
    show wpAny _ _ ((compTurn (.SetComp elt [⟨target, iter, [], 0⟩] scope pos) 0 (.ref I) (.ref D) C'.env).onRaise (fun x => do noteFrame x C'.env; theTreesLotGoes x)) _ _ s'
    refine wpAny_noted ?_
    rw [compTurn_set]
    have R1' : R C' (((hid C zs s4.heap).put D (setO (ledOf C) ((xs.take i).any fun x => !f x) ((xs.take i).any f) ep)).put I o') σ' z' s' := by rw [Z.put_comm (Ne.symm hID)]; exact R'
    have hat := R1'.rh.hidden put_self stay
    refine wpAny_bind (wpAny_standAt (wpAny_bind ?_))
    rcases Nat.lt_or_ge i xs.length with hlt | hge
    · have hx : xs[i]? = some xs[i] := List.getElem?_eq_getElem hlt
      have hv : (xs.map φ)[i]? = some (φ xs[i]) := by rw [List.getElem?_map, hx]; rfl
      refine WO.item _ _ _ s' I o' i _ _ _ hJ' hv R1'.rh ⟨lz, hS _ le'.led⟩ hat fun h' t o'' val e1 hJ'' hsb rv' => ?_
      have R2 := (R1'.iter (put_ne hID hI0) (fr0.put hD0) stay hsb.extBut e1 (t := t)).weaken (σ' := ⟨L, H0⟩) le'.loc le'.led
      refine wpAny_bind (letOwned e1 (WO.cls _ _ hJ'') ?_)
      refine wpAny_bind (wpAny_mono (turn C' hIn' _ (List.getElem_mem hlt) z' val rv' _ _ _ (Z.le_refl _) R2) ?_ fun _ _ x => x.absurd)
      rintro ⟨⟩ s3 ⟨z3, σ3, l3, R3, k3⟩
      refine wpAny_bind (wpAny_mono (k3 z3 _ _ _ (Z.le_refl _) R3) ?_ fun _ _ x => x.absurd)
      rintro ok s5 ⟨z5, σ5, l5, R5, k5⟩
      obtain ⟨fs', hfs'⟩ := WO.fields _ _ hJ''
      cases ok with
      | false => obtain ⟨hout, hle⟩ := k5; cases hout
      | true =>
        refine wpAny_bind (wpAny_bind (wpAny_mono (k5 z5 _ _ _ (Z.le_refl _) R5) ?_ fun _ _ x => x.absurd))
        rintro y s6 ⟨z6, σ6, l6, R6, u, ru, hout, hle⟩
        have hout : V.bool (f xs[i]) = u := Option.some.inj hout
        subst hout
        have ruq := ru.e; clear ru; obtain ⟨_, rfl⟩ := ruq
        have R6' : R C' (((hid C zs s4.heap).put I o'').put D (setO (ledOf C) ((xs.take i).any fun x => !f x) ((xs.take i).any f) ep)) σ6 z6 s6 := by rw [Z.put_comm hID]; exact R6
        have hatD := R6'.rh.hidden put_self (sSet _ _ _)
        refine wpAny_bind (wpAny_standAt (wpAny_bind (call_set_addB hatD fun h'' ep' hsb' e2 => ?_)))
        have R7 := R6'.iter (put_ne (Ne.symm hID) hD0) (fr0.put hI0) (sSet _ _ _) hsb'.extBut e2 (t := s6.toks + 1)
        have et1 : ((xs.take (i + 1)).any fun x => !f x) = (((xs.take i).any fun x => !f x) || !f xs[i]) := by rw [List.take_add_one, hx, List.any_append]; simp
        have et2 : ((xs.take (i + 1)).any f) = (((xs.take i).any f) || f xs[i]) := by rw [List.take_add_one, hx, List.any_append]; simp
        refine wpAny_pure (wpAny_pure ⟨rfl, xs.length - (i + 1), by omega, i + 1, z6, σ6, o'', ep', rfl, by omega, Z.le_trans lz (Z.le_trans l3 (Z.le_trans l5 l6)), ?_, hle, hJ''⟩)
        rw [et1, et2]; exact R7
    · have he : i = xs.length := by omega
      subst he
      have hlenm : (xs.map φ).length = xs.length := List.length_map ..
      refine WO.fin _ _ _ s' I o' _ _ (by rw [hlenm]; exact hJ') R1'.rh ⟨lz, hS _ le'.led⟩ hat fun h' hx => ?_
      refine wpAny_pure ?_
      have R2 := R1'.unhide (put_ne hID hI0) (fr0.put hD0) stay hx (t := s'.toks)
      obtain ⟨ms, hms, _⟩ := R2.ns
      have hatD := R2.rh.hidden put_self (sSet _ _ _)
      have rr : RH C.g (hid C zs s4.heap) σ'.H z' { s' with heap := h' } := R2.rh.unhide hD0
      have Rb := (R4.back lz rr).weaken (σ' := ⟨σ1.loc, H0⟩) (fun _ _ h => h) le'.led
      obtain ⟨oL, esL, epL, eL, dL, _⟩ := id hms
      have apL := fa Lc (by omega)
      have Rl := Rb.hideAt (I := Lc) (o := oL) eL R2.locFree.1 apL
      rw [List.take_length] at hatD
      obtain ⟨d1, d2, d3, d4⟩ := fa D (by omega)
      subst hRes
      refine ⟨ms, hms, fun h2 hsb2 => ?_⟩
      have R9 := Rl.unhideC apL.1 hR.fr (fun ov e => by rw [dL] at e; cases e) (t := s'.toks) hsb2.extBut
      have hD2 : h2.get? D = some (setO (ledOf C) (xs.any fun x => !f x) (xs.any f) ep) := (hsb2.2 D (Ne.symm hDL)).trans hatD
      exact ⟨z', _, Z.le_trans l1 lz, R9.ledger (o := .raw (setO (ledOf C) (xs.any fun x => !f x) (xs.any f) ep)) hD2 (R2.rh.disj _ _ put_self) ⟨d1, d2, d3, d4⟩, _, .ref D, fin D ep⟩
  exact codeAny_compStart_set loop (WO.self s4 I o _ _ hJ (by rw [hh4]; exact eI) loop)
end
end PL

end
section
open PySem PySem.Calls PyProof.Rows
set_option Elab.async false
set_option linter.unusedVariables false
set_option linter.unusedSimpArgs false
set_option linter.unusedSectionVars false
set_option maxRecDepth 100000
namespace PL
/-! the iterator of a set of truth values -/
theorem slot_setit_next : Slot "set_iterator" "__next__" "set_iterator.__next__" :=
  .of (owner := "set_iterator") (n := "__next__") (by rw [typeLookup_type, builtinLookup_eq_fast]; kernel_rfl) (by decide +kernel) (by decide +kernel) (by decide +kernel)
    (by first | exact .inl (by decide +kernel) | exact .inr (by decide +kernel)) (by rw [isSubtype_type]; kernel_rfl)
theorem entry_setit_next : entryFor table "set_iterator.__next__" = some Builtin.«set_iterator.__next__» := entryFor_of_tree (by kernel_rfl)
theorem owner_setit : Manifest.owners.lookup (String.ofList ['r', 'o', 't', 'a', 'r', 'e', 't', 'i', '_', 't', 'e', 's'].reverse) = some Manifest.sig_set_iterator := by kernel_rfl
theorem args_setit_next (a : Value) : argsOk "set_iterator.__next__" ⟨[a], []⟩ := by
  unfold argsOk; rw [signature?_of (id := "set_iterator.__next__") (n := ['_', '_', 't', 'x', 'e', 'n', '_', '_']) (o := ['r', 'o', 't', 'a', 'r', 'e', 't', 'i', '_', 't', 'e', 's']) (by kernel_rfl) owner_setit]; kernel_rfl
theorem entry_set_iter' : entryFor table "set.__iter__" = some Builtin.«frozenset.__iter__» :=
  entryFor_alias (id' := "frozenset.__iter__") (by rw [fastTable_eq_tree]; kernel_rfl) rfl (by decide +kernel) (by rw [fastTable_eq_tree]; kernel_rfl)
noncomputable abbrev sitO (D : Addr) (slot i n ep : Nat) : Obj := { cls := .type "set_iterator", data := .fields #[.int (slot : Int) 0, .int (i : Int) 0, .ref D, .int (n : Int) 0, .int (ep : Int) 0] }
noncomputable def szB (f t : Bool) : Nat := (esB f t).size
noncomputable def slotOK (by_ f t : Bool) (slot i : Nat) : Prop := by_ = true ∨ SetTable.below (tbB true f t).place slot = i
theorem slotOK_zero (by_ f t : Bool) : slotOK by_ f t 0 0 := by cases by_ <;> cases f <;> cases t <;> first | exact .inl rfl | exact .inr rfl
theorem go_size {α : Type} (next : Nat → Nat) : ∀ (n k : Nat) (l : List α) (out : Array α), l.length = n → (pickOrder.go next n k l out).size = out.size + n ∧ ∀ x ∈ pickOrder.go next n k l out, x ∈ out ∨ x ∈ l
  | 0, k, l, out, h => ⟨rfl, fun x hx => .inl hx⟩
  | n + 1, k, l, out, h => by
    have hlt : next k % l.length < l.length := Nat.mod_lt _ (by (clear out k next; (first | lia | omega)))
    show (pickOrder.go next (n + 1) k l out).size = _ ∧ _
    unfold pickOrder.go
    rw [List.getElem?_eq_getElem hlt]
    dsimp only
    obtain ⟨h1, h2⟩ := go_size next n (k + 1) (l.eraseIdx (next k % l.length)) (out.push l[next k % l.length]) (by rw [List.length_eraseIdx_of_lt hlt]; (clear hlt out k next; (first | lia | omega)))
    refine ⟨by rw [h1, Array.size_push]; (clear h2 h1 h hlt l k next; (first | lia | omega)), fun x hx => ?_⟩
    rcases h2 x hx with h | h
    · rcases Array.mem_push.mp h with h | h
      · exact .inl h
      · exact .inr (h ▸ List.getElem_mem hlt)
    · exact .inr (List.mem_of_mem_eraseIdx h)
theorem pick_size {α : Type} (next : Nat → Nat) (xs : Array α) : (pickOrder next xs).size = xs.size := by
  have := (go_size next xs.size 0 xs.toList #[] (by simp)).1
  simpa [pickOrder] using this
theorem pick_mem {α : Type} (next : Nat → Nat) (xs : Array α) {x : α} (h : x ∈ pickOrder next xs) : x ∈ xs := by
  rcases (go_size next xs.size 0 xs.toList #[] (by simp)).2 x h with h | h
  · simp at h
  · simpa using h
theorem esB_mem {f t : Bool} {e : Int × Value} (h : e ∈ esB f t) : ∃ b, e.2 = .bool b ∧ (if b then t else f) = true := by
  cases f <;> cases t <;> simp [esB] at h
  · subst h; exact ⟨true, rfl, rfl⟩
  · subst h; exact ⟨false, rfl, rfl⟩
  · rcases h with rfl | rfl
    · exact ⟨false, rfl, rfl⟩
    · exact ⟨true, rfl, rfl⟩
section
variable {prog : Program} {w : World} {A : Around} {E : Value → Shared → Prop} {s : Shared}
theorem wpAny_setsByText {Q : Bool → Shared → Prop} (h : Q (w.params.followText "set-order") s) : wpAny (model prog w) A setsByText Q E s := by
  unfold setsByText
  exact wpAny_bind (wpAny_askSetting (wpAny_pure h))
theorem pyIter_setB {a : Addr} {led f t : Bool} {ep : Nat} {Q : Value → Shared → Prop} (ha : s.heap.get? a = some (setO led f t ep))
    (h : Q (.ref s.heap.objs.size) { s with heap := s.heap.push (sitO a 0 0 (szB f t) ep) }) : wpAny (model prog w) A (pyIter (.ref a)) Q E s := by
  have hT : s.TypeIs (.ref a) "set" := ⟨_, ha, rfl⟩
  refine wpAny_pyIter_slot hT PySem.F.slot_set_iter (wpAny_call_entry PySem.F.slot_set_iter hT entry_set_iter' ?_ (PySem.F.args_set_iter_1 _))
  unfold Builtin.«frozenset.__iter__» Builtin.Frozenset.slot0 slotArgs
  simp only [List.isEmpty_nil, Bool.not_true, Bool.false_eq_true, ↓reduceIte, bind_assoc, List.length_nil, bne_self_eq_false]
  unfold Builtin.Frozenset.addrOf Builtin.Frozenset.sizeOf setDrawn
  refine wpAny_bind (wpAny_pure ?_)
  try dsimp only
  refine wpAny_bind (wpAny_pure ?_)
  refine wpAny_bind (wpAny_bind (wpAny_setEntries_of ha rfl (fitB led f t) (wpAny_pure ?_)))
  simp only [bind_assoc]
  refine wpAny_bind (wpAny_setState_of ha rfl (fitB led f t) ?_)
  dsimp only
  refine wpAny_bind (wpAny_setsByText ?_)
  refine wpAny_bind (wpAny_pure ?_)
  refine wpAny_ite_split (fun q => ?_) fun _ => ?_
  · exfalso
    have : ∀ x : Bool, (!x && (!true && decide ((esB f t).size > 1))) = false := fun x => by cases x <;> rfl
    have q' : (!w.params.followText "set-order" && (!true && decide ((esB f t).size > 1))) = true := q
    rw [this] at q'; cases q'
  · refine wpAny_bind (wpAny_pure ?_)
    refine wpAny_bind (wpAny_setEpoch_of ha rfl (fitB led f t) ?_)
    exact wpAny_bind (wpAny_newObj_type (wpAny_pure ⟨_, rfl, "set_iterator", _, ⟨_, Heap.get?_push_size _ rfl, rfl⟩, slot_setit_next.lookup, h⟩))
theorem setNext_item {a : Addr} {f t : Bool} {ep slot i : Nat} {Q : Option (Value × Nat) → Shared → Prop} (ha : s.heap.get? a = some (setO (!(w.params.followText "set-order")) f t ep))
    (hi : i < szB f t) (ho : slotOK (w.params.followText "set-order") f t slot i)
    (h : ∀ b slot', (if b then t else f) = true → slotOK (w.params.followText "set-order") f t slot' (i + 1) → Q (some (.bool b, slot')) s) : wpAny (model prog w) A (setNext a slot i ep) Q E s := by
  unfold setNext
  refine wpAny_bind (wpAny_setState_of ha rfl (fitB _ f t) ?_)
  dsimp only
  refine wpAny_bind (wpAny_setsByText ?_)
  cases hb : w.params.followText "set-order" with
  | true =>
    rw [if_pos rfl, if_neg (by simp)]
    unfold setWalk
    refine wpAny_bind (wpAny_bind (wpAny_setState_of ha rfl (fitB _ f t) ?_))
    dsimp only
    refine wpAny_bind (wpAny_setsByText ?_)
    rw [hb, if_pos rfl]
    refine wpAny_bind (wpAny_askSetting (wpAny_pure (wpAny_pure ?_)))
    have hlt : i < (pickOrder (w.params.setOrder a ep) (esB f t)).size := by rw [pick_size]; exact hi
    obtain ⟨b, e1, e2⟩ := esB_mem (pick_mem _ _ (Array.getElem_mem hlt))
    have hg : (pickOrder (w.params.setOrder a ep) (esB f t))[i]? = some (pickOrder (w.params.setOrder a ep) (esB f t))[i] := Array.getElem?_eq_getElem hlt
    show Q (Option.map _ ((pickOrder (w.params.setOrder a ep) (esB f t))[i]?)) s
    rw [hg, Option.map_some, e1]
    exact h b slot e2 (by rw [hb]; exact .inl rfl)
  | false =>
    rw [if_neg Bool.false_ne_true]
    refine wpAny_ite_split (fun q => ?_) fun _ => ?_
    · exfalso
      have q' : (!true && decide ((esB f t).size > 1)) = true := q
      simp at q'
    · rw [hb] at ho ha
      simp only [Bool.not_false] at ha ⊢
      refine wpAny_bind ?_
      change wpAny _ _ (if (!true && !(esB f t).isEmpty) = true then _ else pure ()) _ _ _
      rw [if_neg (by simp)]
      refine wpAny_pure ?_
      · rcases ho with q | ho
        · cases q
        · refine wpAny_pure ?_
          rw [ho]
          rw [hb] at h
          cases f <;> cases t
          · simp [szB, esB] at hi
          · have : i = 0 := by simp [szB, esB] at hi; exact hi
            subst this
            exact h true 2 rfl (.inr rfl)
          · have : i = 0 := by simp [szB, esB] at hi; exact hi
            subst this
            exact h false 1 rfl (.inr rfl)
          · have : i = 0 ∨ i = 1 := by simp [szB, esB] at hi; (clear ha h hb Q ep a ho slot; (first | lia | omega))
            rcases this with rfl | rfl
            · exact h false 1 rfl (.inr rfl)
            · exact h true 2 rfl (.inr rfl)
theorem setNext_end {a : Addr} {f t : Bool} {ep slot i : Nat} {Q : Option (Value × Nat) → Shared → Prop} (ha : s.heap.get? a = some (setO (!(w.params.followText "set-order")) f t ep))
    (hi : i = szB f t) (ho : slotOK (w.params.followText "set-order") f t slot i) (h : Q none s) : wpAny (model prog w) A (setNext a slot i ep) Q E s := by
  unfold setNext
  refine wpAny_bind (wpAny_setState_of ha rfl (fitB _ f t) ?_)
  dsimp only
  refine wpAny_bind (wpAny_setsByText ?_)
  cases hb : w.params.followText "set-order" with
  | true =>
    rw [if_pos rfl, if_neg (by simp)]
    unfold setWalk
    refine wpAny_bind (wpAny_bind (wpAny_setState_of ha rfl (fitB _ f t) ?_))
    dsimp only
    refine wpAny_bind (wpAny_setsByText ?_)
    rw [hb, if_pos rfl]
    refine wpAny_bind (wpAny_askSetting (wpAny_pure (wpAny_pure ?_)))
    have hg : (pickOrder (w.params.setOrder a ep) (esB f t))[i]? = none := by rw [Array.getElem?_eq_none_iff, pick_size, hi]; exact Nat.le_refl _
    show Q (Option.map _ ((pickOrder (w.params.setOrder a ep) (esB f t))[i]?)) s
    rw [hg]; exact h
  | false =>
    rw [if_neg Bool.false_ne_true]
    refine wpAny_ite_split (fun q => ?_) fun _ => ?_
    · exfalso
      have q' : (!true && decide ((esB f t).size > 1)) = true := q
      simp at q'
    · rw [hb] at ho ha
      simp only [Bool.not_false] at ha ⊢
      refine wpAny_bind ?_
      change wpAny _ _ (if (!true && !(esB f t).isEmpty) = true then _ else pure ()) _ _ _
      rw [if_neg (by simp)]
      refine wpAny_pure ?_
      · rcases ho with q | ho
        · cases q
        · refine wpAny_pure ?_
          rw [ho]
          subst hi
          cases f <;> cases t <;> exact h
theorem next_head {it a : Addr} {f t : Bool} {ep slot i : Nat} {Q : PySem.Fin → Shared → Prop} (hit : s.heap.get? it = some (sitO a slot i (szB f t) ep)) (ha : s.heap.get? a = some (setO (!(w.params.followText "set-order")) f t ep))
    (h : wpAny (model prog w) A (setNext a slot i ep >>= fun r => match r with
      | some (x, next) => do setField (.ref it) 0 (rawInt next); setField (.ref it) 1 (rawInt (i + 1)); ret x
      | none => do setField (.ref it) 2 .none; raiseNew (← newExc (.type "StopIteration") [])) Q E s) : wpAny (model prog w) A (Builtin.«set_iterator.__next__» ⟨[.ref it], []⟩) Q E s := by
  unfold Builtin.«set_iterator.__next__» slotArgs
  dsimp only [List.isEmpty_nil, Bool.not_true, List.length_nil, bne_self_eq_false]
  refine wpAny_bind (wpAny_pure ?_)
  dsimp only
  refine wpAny_bind (wpAny_fieldsOf hit rfl ?_)
  show wpAny _ _ (setEntries a >>= fun es => if ((es.size : Int) != (szB f t : Int)) = true then _ else setNext a ((slot : Int)).toNat ((i : Int)).toNat ((ep : Int)).toNat >>= _) _ _ _
  refine wpAny_bind (wpAny_setEntries_of ha rfl (fitB _ f t) ?_)
  rw [if_neg (by simp [szB])]
  exact h
theorem pyNext_setB {it a : Addr} {f t : Bool} {ep slot i : Nat} {Q : Option Value → Shared → Prop} (hit : s.heap.get? it = some (sitO a slot i (szB f t) ep)) (ha : s.heap.get? a = some (setO (!(w.params.followText "set-order")) f t ep))
    (hi : i < szB f t) (ho : slotOK (w.params.followText "set-order") f t slot i)
    (h : ∀ b slot' h', (if b then t else f) = true → slotOK (w.params.followText "set-order") f t slot' (i + 1) → h'.get? it = some (sitO a slot' (i + 1) (szB f t) ep) → Heap.SameBut it s.heap h' → Q (some (.bool b)) { s with heap := h' }) :
    wpAny (model prog w) A (pyNext (.ref it)) Q E s := by
  have hT : s.TypeIs (.ref it) "set_iterator" := ⟨_, hit, rfl⟩
  unfold pyNext
  refine wpAny_bind (wpAny_attempt (wpAny_callSpecial?_slot (name := Str.ofString "__next__") hT slot_setit_next
    (wpAny_call_entry slot_setit_next hT entry_setit_next ?_ (args_setit_next _))))
  refine next_head hit ha (wpAny_bind (setNext_item ha hi ho fun b slot' hb hs => ?_))
  dsimp only
  refine wpAny_bind (wpAny_setField hit rfl (by simp) ?_)
  have e1 := Heap.get?_update_self (Obj.mapFields (·.setIfInBounds 0 (rawInt slot'))) hit rfl
  refine wpAny_bind (wpAny_setField e1 rfl (by simp) (wpAny_pure ⟨_, rfl, wpAny_pure (h b slot' _ hb hs ?_ ((Heap.SameBut.update ..).trans (Heap.SameBut.update ..)))⟩))
  rw [Heap.get?_update_self _ e1 rfl]
  rfl
theorem pyNext_setB_end {it a : Addr} {f t : Bool} {ep slot i : Nat} {Q : Option Value → Shared → Prop} (hh : A.handled = none) (hit : s.heap.get? it = some (sitO a slot i (szB f t) ep)) (ha : s.heap.get? a = some (setO (!(w.params.followText "set-order")) f t ep))
    (hi : i = szB f t) (ho : slotOK (w.params.followText "set-order") f t slot i)
    (h : ∀ h', Heap.ExtBut it s.heap h' → Q none { s with heap := h' }) : wpAny (model prog w) A (pyNext (.ref it)) Q E s := by
  have hT : s.TypeIs (.ref it) "set_iterator" := ⟨_, hit, rfl⟩
  unfold pyNext
  refine wpAny_bind (wpAny_attempt (wpAny_callSpecial?_slot (name := Str.ofString "__next__") hT slot_setit_next
    (wpAny_call_entry slot_setit_next hT entry_setit_next ?_ (args_setit_next _))))
  refine next_head hit ha (wpAny_bind (setNext_end ha hi ho ?_))
  dsimp only
  refine wpAny_bind (wpAny_setField hit rfl (by simp) ?_)
  show wpAny _ _ (newExc (.type "StopIteration") [] >>= _) _ _ _
  refine wpAny_bind ?_
  simp only [newExc, newTuple]
  refine wpAny_bind (wpAny_newObj_type ?_ (by size_fits))
  refine wpAny_bind (m := firstArgMember _ _) (wpAny_of_eq (a := Value.none) (by first | rfl | (simp only [firstArgMember]; rfl)) ?_)
  refine wpAny_newObj_type ?_ (by size_fits)
  simp only [raiseNew]
  refine wpAny_bind (wpAny_handled ?_)
  first | rw [show A.in1.handled = none from hh] | rw [hh]
  refine wpAny_bind (wpAny_pure (wpAny_throw ?_))
  refine wpAny_bind (wpAny_isInstance (T := "StopIteration") (b := true) ⟨_, Heap.get?_push_size _ rfl, rfl⟩ isSubtype_stop ?_)
  exact wpAny_pure (h _ (((Heap.SameBut.update ..).extBut.push _).push _))
end
end PL

end
section
open PySem PySem.Calls PyProof.Rows
set_option Elab.async false
set_option linter.unusedVariables false
set_option linter.unusedSimpArgs false
set_option linter.unusedSectionVars false
set_option maxRecDepth 100000
namespace PL
/-! one name takes the one item of a set of truth values; a raise in a handler -/
section
variable {prog : Program} {w : World} {A : Around} {E : Value → Shared → Prop} {s : Shared}
theorem unpackItems_one {a : Addr} {f t b : Bool} {ep : Nat} {Q : List Value → Shared → Prop} (hh : A.handled = none) (ha : s.heap.get? a = some (setO (!(w.params.followText "set-order")) f t ep))
    (h1 : f = !b) (h2 : t = b) (hQ : ∀ h', Heap.ExtBut s.heap.objs.size s.heap h' → Q [.bool b] { s with heap := h' }) : wpAny (model prog w) A (unpackItems (.ref a) 1 none) Q E s := by
  have hT : s.TypeIs (.ref a) "set" := ⟨_, ha, rfl⟩
  have hlt : a ≠ s.heap.objs.size := Nat.ne_of_lt (Heap.lt_size ha)
  have hsz : szB f t = 1 := by subst h1 h2; cases t <;> rfl
  unfold unpackItems
  refine wpAny_bind ?_
  unfold notIterableAtAll
  refine wpAny_bind (wpAny_specialOf hT PySem.F.slot_set_iter.lookup ?_)
  refine wpAny_pure ?_
  simp only [Bool.false_eq_true, if_false]
  refine wpAny_bind (wpAny_holding (pyIter_setB ha ?_))
  have e0 : (s.heap.push (sitO a 0 0 (szB f t) ep)).get? s.heap.objs.size = some (sitO a 0 0 (szB f t) ep) := Heap.get?_push_size _ rfl
  have a0 : (s.heap.push (sitO a 0 0 (szB f t) ep)).get? a = some (setO (!(w.params.followText "set-order")) f t ep) := Heap.get?_push_of_some _ ha
  refine wpAny_bind (wpAny_holding ?_)
  show wpAny _ _ (pyNext (.ref s.heap.objs.size) >>= _) _ _ _
  refine wpAny_bind (pyNext_setB e0 a0 (by (clear a0 e0 hlt hT hQ h2 h1 ha hh Q ep b a; (first | lia | omega))) (slotOK_zero _ _ _) fun c slot' h' hc hs e1 sb => ?_)
  have hcb : c = b := by subst h1 h2; cases c <;> cases t <;> first | rfl | (simp at hc)
  subst hcb
  refine wpAny_bind (wpAny_holding (wpAny_pure (wpAny_pure ?_)))
  rw [if_neg (by simp)]
  have a1 : h'.get? a = some (setO (!(w.params.followText "set-order")) f t ep) := (sb.2 a hlt).trans a0
  refine wpAny_bind (wpAny_holding (pyNext_setB_end hh e1 a1 (by (clear a1 hQ h2 h1 sb e1 hs hc h' slot' c a0 e0 hlt hT ha hh Q ep a; (first | lia | omega))) hs fun h'' x => ?_))
  simp only [Option.isSome_none, Bool.false_eq_true, if_false]
  exact wpAny_pure (hQ h'' fun b o hb e => x b o hb (sb.extBut b o hb (Heap.get?_push_of_some _ e)))
theorem unpackItems_two {a : Addr} {ep : Nat} {Q : List Value → Shared → Prop} (hh : A.handled = none) (ha : s.heap.get? a = some (setO (!(w.params.followText "set-order")) true true ep))
    (hE : ∀ h' tk e, Heap.NewExc s.heap h' e "ValueError" → E (.ref e) { s with heap := h', toks := tk }) : wpAny (model prog w) A (unpackItems (.ref a) 1 none) Q E s := by
  have hT : s.TypeIs (.ref a) "set" := ⟨_, ha, rfl⟩
  have hlt : a ≠ s.heap.objs.size := Nat.ne_of_lt (Heap.lt_size ha)
  have hsz : szB true true = 2 := rfl
  unfold unpackItems
  refine wpAny_bind ?_
  unfold notIterableAtAll
  refine wpAny_bind (wpAny_specialOf hT PySem.F.slot_set_iter.lookup ?_)
  refine wpAny_pure ?_
  simp only [Bool.false_eq_true, if_false]
  refine wpAny_bind (wpAny_holding (pyIter_setB ha ?_))
  have e0 : (s.heap.push (sitO a 0 0 (szB true true) ep)).get? s.heap.objs.size = some (sitO a 0 0 (szB true true) ep) := Heap.get?_push_size _ rfl
  have a0 : (s.heap.push (sitO a 0 0 (szB true true) ep)).get? a = some (setO (!(w.params.followText "set-order")) true true ep) := Heap.get?_push_of_some _ ha
  refine wpAny_bind (wpAny_holding ?_)
  show wpAny _ _ (pyNext (.ref s.heap.objs.size) >>= _) _ _ _
  refine wpAny_bind (pyNext_setB e0 a0 (by (clear a0 e0 hlt hT hE ha hh Q ep a; (first | lia | omega))) (slotOK_zero _ _ _) fun c slot' h' hc hs e1 sb => ?_)
  refine wpAny_bind (wpAny_holding (wpAny_pure (wpAny_pure ?_)))
  rw [if_neg (by simp)]
  have a1 : h'.get? a = some (setO (!(w.params.followText "set-order")) true true ep) := (sb.2 a hlt).trans a0
  refine wpAny_bind (wpAny_holding (pyNext_setB e1 a1 (by (clear a1 sb e1 hs hc h' slot' c a0 e0 hlt hT hE ha hh Q ep a; (first | lia | omega))) hs fun c2 slot2 h2 hc2 hs2 e2 sb2 => ?_))
  rw [if_pos (by rfl)]
  refine wpAny_bind (wpAny_rule ?_)
  refine wpAny_bind (wpAny_raiseErrorMade plainExc_ValueError hh (fun h3 tk e x => hE h3 tk e ⟨fun b o hb => ?_, ?_, x.there⟩) (by decide +kernel))
  · have hb' : b ≠ s.heap.objs.size := Nat.ne_of_lt (Heap.lt_size hb)
    exact x.keeps _ _ ((sb2.2 b hb').trans ((sb.2 b hb').trans (Heap.get?_push_of_some _ hb)))
  · cases q : s.heap.get? e with
    | none => rfl
    | some o =>
      have hb' : e ≠ s.heap.objs.size := Nat.ne_of_lt (Heap.lt_size q)
      have := x.new
      rw [show h2.get? e = some o from (sb2.2 e hb').trans ((sb.2 e hb').trans (Heap.get?_push_of_some _ q))] at this
      cases this
/-- raise new from None, where a is handled -/
theorem entry_unchain : entryFor table "proto.unchain" = some Builtin.«proto.unchain» := entryFor_of_tree (by kernel_rfl)
set_option maxHeartbeats 2000000 in
theorem raise_from_none {env : Env} {cls : String} (F : ExcRaiseFacts cls) {a : Addr} {x c : Sem Value} {Q : Flow → Shared → Prop} (hh : A.handled = some (.ref a))
    (h : wpAny (model prog w) A x (fun v s₁ => ∃ e t oe vs, v = .ref e ∧ s₁.heap.get? e = some { cls := .type cls, data := .fields #[.ref t, .none, .none, .none, .bool false, .none] } ∧
      s₁.heap.get? a = some oe ∧ oe.data = .fields vs ∧ vs[2]? = some .none ∧ a ≠ e ∧
      wpAny (model prog w) A c (fun u s₂ => u = .none ∧ s₂ = s₁ ∧ ∀ h', Heap.SameBut e s₁.heap h' → h'.get? e = some { cls := .type cls, data := .fields #[.ref t, .none, .ref a, .none, .bool true, .none] } → E (.ref e) { s₁ with heap := h' }) E s₁) E s) :
    wpAny (model prog w) A (raiseStmt env (some x) (some c)) Q E s := by
  unfold raiseStmt
  refine wpAny_bind (wpAny_mono h (fun v s₁ h₁ => ?_) fun _ _ x => x)
  obtain ⟨e, t, oe, vs, rfl, he, ha, hd, h2, ne, hc⟩ := h₁
  refine wpAny_bind (wpAny_holding (wpAny_mono hc (fun u s₂ h₂ => ?_) fun _ _ x => x))
  obtain ⟨rfl, rfl, hE⟩ := h₂
  refine wpAny_bind (wpAny_pure ?_)
  obtain ⟨hp, g, d, tk, os⟩ := s₂
  have hsub := F.isExc
  have hmeta := F.plainMeta
  have step1 := Heap.get?_update_self (Obj.mapFields (·.setIfInBounds 3 Value.none)) he rfl
  have step2 := Heap.get?_update_self (Obj.mapFields (·.setIfInBounds 4 (Value.bool true))) step1 rfl
  have sb2 : Heap.SameBut e hp _ := (Heap.SameBut.update hp e (Obj.mapFields (·.setIfInBounds 3 Value.none))).trans (Heap.SameBut.update _ e (Obj.mapFields (·.setIfInBounds 4 (Value.bool true))))
  repeat (first | with_reducible refine wpAny_loadPart_at he ?_ | wp_step)
  unfold raiseNew
  refine wpAny_bind (wpAny_handled ?_)
  rw [hh]
  dsimp only
  rw [if_pos (show (Value.ref a != Value.ref e) = true from by simp [ne])]
  have step3 := Heap.get?_update_self (Obj.mapFields (·.setIfInBounds 2 (Value.ref a))) step2 rfl
  have ha2 : ((hp.update e (Obj.mapFields (·.setIfInBounds 3 Value.none))).update e (Obj.mapFields (·.setIfInBounds 4 (Value.bool true)))).get? a = some oe := (sb2.2 a ne).trans ha
  refine wpAny_bind (wpAny_holding (wpAny_runValue (codeAny_builtin entry_unchain ?_)))
  unfold Builtin.«proto.unchain»
  dsimp only
  refine wpAny_bind (wpAny_field ha2 hd h2 ?_)
  rw [if_pos (by rfl)]
  refine wpAny_bind (wpAny_pure (wpAny_pure ?_))
  refine wpAny_bind ?_
  show wpAny _ _ (setField (.ref e) 2 (.ref a)) _ _ _
  refine wpAny_setField step2 rfl (by simp) ?_
  exact wpAny_throw (hE _ (sb2.trans (Heap.SameBut.update ..)) step3)
end
/-! the statement itself -/
section
variable {C : Cx} {X : XP} {σ : St}

theorem raiseH {a T : Addr} {oe oT : Obj} {vs ts : Array Value} {cls : String} {zs z : Z} {s : Shared} {p4 p5 p6 p7 : Pos} {args : List Expr} {kN : Nat} {Qf : Flow → Shared → Prop} (hOwn : OwnFr C) (hfr : FrOK C.outer zs)
    (K : Caught C zs σ z s a T oe oT vs ts cls) (hc2 : vs[2]? = some .none)
    (hname2 : ∀ a (σ : St), TE (C.mk_ a) (.Name ("ValueError" : Str) p4) (fun u σ' => u = .con (.type "ValueError") ∧ σ' = σ) X0 σ)
    (hargs : ∀ a (σ : St), TArgs (C.mk_ a) args (fun vs σ' => vs.length ≤ 10 ∧ σ' = σ) X0 σ) (hX : X "ValueError" σ)
    (hp : (backTo p5 (starEach args C.env)).any (·.1) = false) :
    wpAny C.M (C.A.mark (some (.ref a))) (execs [.Raise (some (.Call (.Name ("ValueError" : Str) p4) args [] p5)) (some (.Constant .none kN p6)) p7] C.env) Qf (notedBy C.M (C.A.mark (some (.ref a))) C.env (cameBackBy C.M C.A C.env (PX C zs z X))) s := by
  rw [execs_cons]
  refine wpAny_bind ?_
  rw [arm_exec_Raise]
  refine wpAny_bind (wpAny_standAt ?_)
  show wpAny _ _ (raiseStmt C.env (some (do let v ← eval (.Call (.Name ("ValueError" : Str) p4) args [] p5) C.env; standAt p7; Pure.pure v)) (some (do let v ← eval (.Constant .none kN p6) C.env; standAt p7; Pure.pure v))) _ _ s
  refine raise_from_none PySem.F.excRaise_ValueError (a := a) rfl ?_
  refine wpAny_bind (wpAny_Call_ofName ?_)
  refine wpAny_mono (hname2 a σ z _ z s (Z.le_refl _) K.r.toMk) ?_ (fun _ _ x => x.absurd)
  rintro fv s1 ⟨z1, σ1, l1, R1, u, ru, hu, hσ⟩
  subst hu
  rw [hσ] at R1
  have ruq := ru.e; clear ru; obtain ⟨_, rfl⟩ := ruq
  refine callWith_excType hp (evalArgs_of hp ?_)
  refine wpAny_mono (hargs a σ p5 z1 _ z1 s1 (Z.le_refl _) R1) ?_ (fun _ _ x => x.absurd)
  rintro xs s2 ⟨z2, σ2, l2, R2, ws, rws, hlen, hσ2⟩
  rw [hσ2] at R2
  have K2 : Caught C zs σ z2 s2 a T oe oT vs ts cls := ⟨R2.ofMk, K.za, K.zT, K.ne, K.cls, K.de, K.e1, K.e0, K.dT, K.sz⟩
  have l12 : Z.le z z2 := Z.le_trans l1 l2
  obtain ⟨hp2, g2, d2, tk2, os2⟩ := s2
  refine wpAny_call_exc PySem.F.excCall_ValueError (fun h' e hm => ?_) (by show xs.length ≤ _; rw [rws.length]; exact Nat.le_trans hlen (by rw [sizeLine_eq]; decide))
  refine wpAny_bind (wpAny_standAt (wpAny_pure ?_))
  obtain ⟨t, ht, hn, _⟩ := hm.there
  have hea := K2.he
  have ne : a ≠ e := fun q => by have := hm.new; rw [← q] at this; rw [show hp2.get? a = some oe from hea] at this; cases this
  refine ⟨e, t, oe, vs, rfl, ht, hm.keeps _ _ hea, K2.de, hc2, ne, ?_⟩
  refine wpAny_bind ?_
  rw [show eval (.Constant .none kN p6) C.env = Pure.pure Value.none from rfl]
  refine wpAny_pure (wpAny_bind (wpAny_standAt (wpAny_pure ⟨rfl, rfl, fun h3 sb3 e3 => ?_⟩)))
  obtain ⟨fr, hfr1, F0⟩ := K2.r.frs
  rw [hOwn.1] at hfr1
  cases hfr1
  obtain ⟨e', B, ee, F⟩ := Fly.made (tk := tk2) K2.r.rh F0 hm.newExc
  cases ee
  have stay3 : B.StaysIn h3 := fun b o hb => (sb3.2 b fun q => by rw [q, F.new] at hb; cases hb).trans (F.stays b o hb)
  have frm3 : h3.FunFrames B (C.env :: C.outer) := F.frames.of_keeps fun b o hb hnf => ⟨o, (sb3.2 b fun q => by rw [q] at hb; rw [show h'.get? e = _ from ht] at hb; cases hb; exact hnf _ rfl).trans hb, rfl⟩
  show wpAny _ _ (noteFrame (.ref e) C.env) _ _ _
  unfold noteFrame
  simp only [hOwn.2]
  refine wpAny_bind (wpAny_field e3 rfl (x := .none) rfl ?_)
  rw [if_neg (by decide)]
  refine entryX (A := C.A.mark (some (.ref a))) (base := B) hOwn.1 frm3 hOwn.2 e3 stay3 F.new rfl (by simp) fun h4 T2 oT2 ts2 k1 k2 k3 k4 k5 k6 k7 k8 u => ?_
  show wpAny _ _ (do
    if (← field (.ref e) 1) == .none then unsupported "frame.own-activation:exception-without-traceback"
    setFlight (.ref e) C.env.frame) _ _ _
  refine wpAny_bind (wpAny_field k3 (Obj.data_mapFields rfl _) (x := .ref T2) rfl ?_)
  rw [if_neg (by simp)]
  rw [hOwn.2]
  refine flightX (base := B) k1 k2 k3 (Obj.data_mapFields rfl _) rfl k4 k5 k6 k7 (Array.getElem?_eq_some_iff.mp k8).1 fun h5 oT5 ts5 m1 m2 m3 m4 m5 m6 u2 => ?_
  have R3 : R C ((zs.put a oe).put T oT) σ z2 { heap := h3, gens := g2, drawn := d2, toks := tk2, os := os2 } := by
    have r1 : R C ((zs.put a oe).put T oT) σ z2 { heap := h', gens := g2, drawn := d2, toks := tk2, os := os2 } := K2.r.grow (t := tk2) hm.keeps
    refine r1.after (h' := h3) F.base stay3 fun b o hb hnf => ⟨o.slots, (sb3.2 b fun q => by rw [q] at hb; rw [show h'.get? e = _ from ht] at hb; cases hb; exact hnf _ rfl).trans hb⟩
  have R5 : R C ((zs.put a oe).put T oT) σ z2 { heap := h5, gens := g2, drawn := d2, toks := tk2, os := os2 } := R3.after (h' := h5) F.base m1 (u.trans u2)
  have K5 : Caught C zs σ z2 { heap := h5, gens := g2, drawn := d2, toks := tk2, os := os2 } a T oe oT vs ts cls := ⟨R5, K.za, K.zT, K.ne, K.cls, K.de, K.e1, K.e0, K.dT, K.sz⟩
  refine ⟨z2, σ, "ValueError", _, l12, K5.free hfr, hOwn.1, ⟨e, B, rfl, m1, F.new, m2, F.hz, F.led, fun b o hb hn => F.hid b o (put_le_of (put_ne K.ne K.zT) (put_le_of K.za hb)) hn, .inr (.inr ⟨C.env, C.outer, C.env.locals, .ref t, rfl, hOwn.2, ?_⟩)⟩, hX⟩
  exact ⟨_, _, T2, oT5, ts5, m3, ⟨rfl, rfl⟩, Obj.data_mapFields rfl _, rfl, k4, k5, m4, m5, m6⟩
/-- `x, = {..}`, where two items are told by an exception of the text's own -/
theorem TS.unpackB {x : Str} {p p1 p2 p3 p4 p5 p6 p7 p8 p9 : Pos} {k : Nat} {comp : Expr} {args : List Expr} {kN : Nat} {Q : Fl → St → Prop} (hOwn : OwnFr C) (hh : C.A.handled = none) (kx : Stores C x)
    (hname : ∀ a (σ : St), TE (C.mk_ a) (.Name ("ValueError" : Str) p3) (fun u σ' => u = .con (.type "ValueError") ∧ σ' = σ) X0 σ)
    (hname2 : ∀ a (σ : St), TE (C.mk_ a) (.Name ("ValueError" : Str) p4) (fun u σ' => u = .con (.type "ValueError") ∧ σ' = σ) X0 σ)
    (hargs : ∀ a (σ : St), TArgs (C.mk_ a) args (fun vs σ' => vs.length ≤ 10 ∧ σ' = σ) X0 σ)
    (h : TE C comp (fun v σ1 => ∃ a f t ep, v = .ref a ∧ (a, AO.raw (setO (ledOf C) f t ep)) ∈ σ1.H ∧ ((∃ b, f = !b ∧ t = b ∧ Q .next ⟨setL σ1.loc x (.bool b), σ1.H⟩) ∨ (f = true ∧ t = true ∧ X "ValueError" σ1))) X0 σ)
    (hp : (backTo p5 (starEach args C.env)).any (·.1) = false := by rfl) (hw : swapsWithSole [.Tuple [.Name x p] k p1] comp p2.line C.env = Pure.pure false := by rfl) (hw2 : swappedStores [.Tuple [.Name x p] k p1] comp C.env = Pure.pure none := by rfl) :
    TS C (.Try [.Assign [.Tuple [.Name x p] k p1] comp p2] [.ExceptHandler (some (.Name ("ValueError" : Str) p3)) none [.Raise (some (.Call (.Name ("ValueError" : Str) p4) args [] p5)) (some (.Constant .none kN p6)) p7] p8] [] [] p9) Q X σ := by
  intro z₀ zs z s hz hR
  refine wpAny_Try_except ?_
  rw [execs_cons]
  refine wpAny_bind (wpAny_Assign_stores ?_ hw hw2)
  refine wpAny_mono (h z₀ zs z s hz hR) ?_ fun _ _ x => x.absurd
  rintro v s1 ⟨z1, σ1, l1, R1, u, ru, a, f, t, ep, rfl, hm, hq⟩
  have ruq := ru.e; clear ru; obtain ⟨_, rfl⟩ := ruq
  have ha : s1.heap.get? a = some (setO (ledOf C) f t ep) := (R1.rh.hH _ hm).1
  show wpAny _ _ (PySem.assign (.Tuple [.Name x p] k p1) C.env (.ref a)) _ _ s1
  rw [arm_assign_Tuple]
  refine wpAny_bind (wpAny_standAt ?_)
  unfold PySem.unpack
  refine wpAny_bind (wpAny_holding ?_)
  rw [show (assignEach [.Name x p] C.env).findIdx? (·.1) = none from rfl, show (assignEach [.Name x p] C.env).length = 1 from rfl]
  rcases hq with ⟨b, hf, ht, hQ⟩ | ⟨hf, ht, hX⟩
  · refine unpackItems_one hh ha hf ht fun h' hx => ?_
    have R2 : R C zs σ1 z1 { s1 with heap := h' } := R1.grow (t := s1.toks) fun b o e => hx b o (Nat.ne_of_lt (Heap.lt_size e)) e
    have T : TIn C [.Name x p] [.bool b] (fun σ' => Q .next σ') X0 σ1 := TIn.cons (TAs.name kx (TIn.nil hQ))
    refine wpAny_mono (T z1 [.bool b] (.cons (.bool b) .nil) zs z1 _ (Z.le_refl _) R2) ?_ fun _ _ x => x.absurd
    rintro ⟨⟩ s3 ⟨z3, σ3, l3, R3, q⟩
    exact wpAny_pure (wpAny_pure ⟨z3, σ3, Z.le_trans l1 l3, R3, .next, .next, q⟩)
  · subst hf ht
    refine unpackItems_two hh ha fun h' tk e hn => ?_
    obtain ⟨fr, hfr1, F0⟩ := R1.frs
    rw [hOwn.1] at hfr1
    cases hfr1
    obtain ⟨e', B, ee, F⟩ := Fly.made (tk := tk) R1.rh F0 hn
    cases ee
    obtain ⟨oe, t0, d1, d2, d3⟩ := hn.there
    have R2 : R C zs σ1 z1 { s1 with heap := h', toks := tk } := R1.grow (t := tk) hn.keeps
    refine catch_made hOwn R2 F.base F.stays F.frames F.new d1 d2 d3 rfl rfl rfl fun h2 T oe2 oT vs ts K hc2 => ?_
    refine wpAny_handleBy_cons (codeAny_handlers_test (wpAny_mono (hname e σ1 z1 _ z1 _ (Z.le_refl _) K.r.toMk) (fun c s3 h3 => ?_) fun _ _ x => x.absurd)) (by intro q; cases q)
    obtain ⟨z3, σ3, l3, R3, u3, ru3, hu3, hσ3⟩ := h3
    rw [hσ3] at R3
    rw [hu3] at ru3
    have K3 : Caught C zs σ1 z3 s3 e T oe2 oT vs ts "ValueError" := ⟨R3.ofMk, K.za, K.zT, K.ne, K.cls, K.de, K.e1, K.e0, K.dT, K.sz⟩
    have S : ExcSpec "ValueError" (.con (.type "ValueError")) true := .one (by rw [isSubtype_type]; kernel_rfl) (by rw [isSubtype_type]; kernel_rfl) (by rw [isSubtype_type]; kernel_rfl)
    refine excMatches_spec S R3 ru3 K3.typeIs ?_
    rw [if_pos rfl]
    refine codeAny_handlers_suite (K3.flight hR.fr fun h4 oT4 ts4 K4 _ => ?_)
    refine wpAny_mono (raiseH (X := X) (Qf := fun _ _ => False) hOwn hR.fr K4 hc2 hname2 hargs hX hp) (fun _ _ x => x.elim) ?_
    intro y s5 x
    refine wpAny_mono x (fun _ _ x => ?_) fun _ _ x => ?_
    · exact wpAny_mono x (fun _ _ x => PX.le (Z.le_trans l1 l3) x) fun _ _ x => PX.le (Z.le_trans l1 l3) x
    · exact wpAny_mono x (fun _ _ x => PX.le (Z.le_trans l1 l3) x) fun _ _ x => PX.le (Z.le_trans l1 l3) x
end
end PL

end
section
open PySem PySem.Calls PyProof.Rows
set_option Elab.async false
set_option linter.unusedVariables false
set_option linter.unusedSimpArgs false
set_option linter.unusedSectionVars false
namespace PL
/-! what commonpath answers -/
section
variable {C : Cx} {X : XP} {σ : St} {Q : V → St → Prop} {g : Gd} {n : Nat} {sc : Scope}
theorem TE.nameF (hIn : In C g n sc) {p : Program} {i : Nat} {a : Addr} {x : Str} {np : Pos} (hf : Fn g p i a) (hx : nameAt p i = x) (hl : sc.names.lookup x = some .globalImplicit)
    (h : Q (.con (.ref a)) σ) (hd : (x == ("__debug__" : Str)) = false := by decide +kernel) : TE C (.Name x np) Q X σ := by
  have hg := hIn.g
  subst hg
  exact TE.name_glob ((hIn.kind x).trans hl) (hx ▸ hf.1) h hd
theorem In.nameMk (hIn : In C g n sc) {bs : List Str} {x : Str} {f : Value} {np : Pos} (hl : sc.names.lookup x = some .globalImplicit) (hfr : Free g bs) (hm : x ∈ bs) (hv : bootBuiltins x = some f)
    (a : Addr) (σ : St) (hd : (x == ("__debug__" : Str)) = false := by decide +kernel) (hn' : x ≠ "__name__" := by decide +kernel) : TE (C.mk_ a) (.Name x np) (fun u σ' => u = .con f ∧ σ' = σ) X0 σ := by
  have hg := hIn.g
  subst hg
  exact TE.name_builtin (C := C.mk_ a) (show (C.mk_ a).env.kindOf x = _ from (hIn.kind x).trans hl) (hfr x hm) hv ⟨rfl, rfl⟩ hd hn'
theorem TE.setcompB {scope : Scope} {elt target iter : Expr} {pos : Pos} (hIn : In C g n sc) (K : CompOK scope sc)
    (h : TE C iter (CompB C g n sc scope target elt Q) X σ)
    (hs : ∀ x, foldedSetIterable iter C.env x = Pure.pure x := by intro _; rfl) : TE C (.SetComp elt [⟨target, iter, [], 0⟩] scope pos) Q X σ := fun z₀ => TT.setcompB hIn K h hs
end
theorem BI_VE : bootBuiltins "ValueError" = some (.type "ValueError") := by kernel_rfl
theorem BI_TE : bootBuiltins "TypeError" = some (.type "TypeError") := by kernel_rfl
theorem BI_AE : bootBuiltins "AttributeError" = some (.type "AttributeError") := by kernel_rfl
theorem spec_VE : ExcSpec "ValueError" (.con (.type "ValueError")) true := .one (by rw [isSubtype_type]; kernel_rfl) (by rw [isSubtype_type]; kernel_rfl) (by rw [isSubtype_type]; kernel_rfl)
theorem spec_VE2 : ExcSpec "ValueError" (.tup [.con (.type "TypeError"), .con (.type "AttributeError")]) false :=
  .two (b := false) (c := false) (by rw [isSubtype_type]; kernel_rfl) (by rw [isSubtype_type]; kernel_rfl) (by rw [isSubtype_type]; kernel_rfl) (by rw [isSubtype_type]; kernel_rfl)
/-- the names in a path -/
noncomputable def nm? (c : List Nat) : Bool := !(c == [] || c == [46])
noncomputable def compsS (l : List Nat) : List (List Nat) := (splitS 47 l).filter nm?
/-- what both begin with -/
noncomputable def pfx : List (List Nat) → List (List Nat) → List (List Nat)
  | x :: a, y :: b => if x = y then x :: pfx a b else []
  | _, _ => []
noncomputable def cpL (ls : List (List (List Nat))) : List (List Nat) := pfx (bestL .Lt ls) (bestL .Gt ls)
noncomputable def cpS (ps : List (List Nat)) : List Nat := (if headIs 47 (ps.headD []) then [47] else []) ++ joinS [47] (cpL (ps.map compsS))

theorem pfx_comm : ∀ a b : List (List Nat), pfx a b = pfx b a
  | [], [] => rfl
  | [], _ :: _ => rfl
  | _ :: _, [] => rfl
  | x :: a, y :: b => by
    unfold pfx
    by_cases h : x = y
    · rw [if_pos h, if_pos h.symm, pfx_comm a b, h]
    · rw [if_neg h, if_neg (Ne.symm h)]
theorem pfx_ne : ∀ {a b : List (List Nat)} {i : Nat} {c d : List Nat}, a.take i = b.take i → a[i]? = some c → b[i]? = some d → c ≠ d → pfx a b = a.take i
  | [], _, _, _, _, _, h, _, _ => by simp at h
  | _ :: _, [], _, _, _, _, _, h, _ => by simp at h
  | x :: a, y :: b, 0, c, d, _, h1, h2, h3 => by
    simp at h1 h2; subst h1 h2
    rw [pfx, if_neg h3]; rfl
  | x :: a, y :: b, i + 1, c, d, h0, h1, h2, h3 => by
    simp only [List.take_succ_cons, List.cons.injEq] at h0
    rw [pfx, if_pos h0.1, List.take_succ_cons, pfx_ne h0.2 (by simpa using h1) (by simpa using h2) h3]
theorem pfx_all : ∀ {a b : List (List Nat)}, a.take a.length = b.take a.length → pfx a b = a
  | [], _, _ => rfl
  | _ :: _, [], h => by simp at h
  | x :: a, y :: b, h => by
    simp only [List.length_cons, List.take_succ_cons, List.cons.injEq] at h
    rw [pfx, if_pos h.1, pfx_all h.2]
theorem pfx_len : ∀ a b : List (List Nat), ∃ k, pfx a b = a.take k
  | [], b => ⟨0, by cases b <;> rfl⟩
  | x :: a, [] => ⟨0, rfl⟩
  | x :: a, y :: b => by
    unfold pfx
    by_cases h : x = y
    · obtain ⟨k, hk⟩ := pfx_len a b
      exact ⟨k + 1, by rw [if_pos h, hk]; rfl⟩
    · exact ⟨0, by rw [if_neg h]; rfl⟩

/-! the order -/
theorem ltT_asymm {a b : List Nat} (h : ltT a b = true) : ltT b a = false := by
  unfold ltT at *
  exact decide_eq_false (List.lt_asymm (of_decide_eq_true h))
theorem ltT_trans {a b c : List Nat} (h : ltT a b = true) (k : ltT b c = true) : ltT a c = true := by
  unfold ltT at *
  exact decide_eq_true (List.lt_trans (of_decide_eq_true h) (of_decide_eq_true k))
theorem ltT_conn {a b : List Nat} (h : ltT a b = false) (k : ltT b a = false) : a = b := by
  unfold ltT at *
  exact List.le_antisymm (of_decide_eq_false k) (of_decide_eq_false h)
theorem ltS_irrefl : ∀ a : List (List Nat), ltS a a = false
  | [] => rfl
  | x :: a => by rw [ltS]; simp [ltS_irrefl a]
theorem ltS_asymm : ∀ {a b : List (List Nat)}, ltS a b = true → ltS b a = false
  | [], [], h => by cases h
  | [], _ :: _, _ => rfl
  | _ :: _, [], h => by cases h
  | x :: a, y :: b, h => by
    rw [ltS] at h ⊢
    by_cases e : x = y
    · subst e
      simp only [beq_self_eq_true, if_true] at h ⊢
      exact ltS_asymm h
    · rw [if_neg (by simpa using e)] at h
      rw [if_neg (by simpa using Ne.symm e)]
      exact ltT_asymm h
theorem ltS_conn : ∀ {a b : List (List Nat)}, ltS a b = false → ltS b a = false → a = b
  | [], [], _, _ => rfl
  | [], _ :: _, h, _ => by cases h
  | _ :: _, [], _, h => by cases h
  | x :: a, y :: b, h, k => by
    rw [ltS] at h k
    by_cases e : x = y
    · subst e
      simp only [beq_self_eq_true, if_true] at h k
      rw [ltS_conn h k]
    · rw [if_neg (by simpa using e)] at h
      rw [if_neg (by simpa using Ne.symm e)] at k
      exact absurd (ltT_conn h k) e
theorem ltS_trans : ∀ {a b c : List (List Nat)}, ltS a b = true → ltS b c = true → ltS a c = true
  | [], [], _, h, _ => by cases h
  | [], _ :: _, [], _, h => by cases h
  | [], _ :: _, _ :: _, _, _ => rfl
  | _ :: _, [], _, h, _ => by cases h
  | _ :: _, _ :: _, [], _, h => by cases h
  | x :: a, y :: b, w :: c, h, k => by
    rw [ltS] at h k ⊢
    by_cases e1 : x = y
    · subst e1
      simp only [beq_self_eq_true, if_true] at h
      by_cases e2 : x = w
      · subst e2
        simp only [beq_self_eq_true, if_true] at k ⊢
        exact ltS_trans h k
      · rw [if_neg (by simpa using e2)] at k ⊢
        exact k
    · rw [if_neg (by simpa using e1)] at h
      by_cases e2 : y = w
      · subst e2
        rw [if_neg (by simpa using e1)]
        exact h
      · rw [if_neg (by simpa using e2)] at k
        by_cases e3 : x = w
        · subst e3
          rw [ltT_asymm h] at k; cases k
        · rw [if_neg (by simpa using e3)]
          exact ltT_trans h k
/-- not before: the weak order -/
theorem leS_trans {a b c : List (List Nat)} (h : ltS b a = false) (k : ltS c b = false) : ltS c a = false := by
  cases q : ltS c a with
  | false => rfl
  | true =>
    cases q1 : ltS a b with
    | true => rw [ltS_trans q q1] at k; cases k
    | false =>
      have e := ltS_conn q1 h
      subst e
      rw [q] at k; cases k
theorem foldl_min : ∀ (r : List (List (List Nat))) (a : List (List Nat)), (ltS a (r.foldl (fun b x => if opS .Lt x b then x else b) a) = false) ∧ ∀ x ∈ r, ltS x (r.foldl (fun b x => if opS .Lt x b then x else b) a) = false
  | [], a => ⟨ltS_irrefl a, fun _ h => by cases h⟩
  | y :: r, a => by
    rw [List.foldl_cons]
    by_cases h : opS .Lt y a = true
    · rw [if_pos h]
      obtain ⟨h1, h2⟩ := foldl_min r y
      refine ⟨leS_trans h1 (ltS_asymm h), fun x hx => ?_⟩
      rcases List.mem_cons.mp hx with rfl | hx
      · exact h1
      · exact h2 x hx
    · rw [if_neg h]
      obtain ⟨h1, h2⟩ := foldl_min r a
      have h : ltS y a = false := by simpa [opS] using h
      refine ⟨h1, fun x hx => ?_⟩
      rcases List.mem_cons.mp hx with rfl | hx
      · exact leS_trans h1 h
      · exact h2 x hx
theorem foldl_max : ∀ (r : List (List (List Nat))) (a : List (List Nat)), (ltS (r.foldl (fun b x => if opS .Gt x b then x else b) a) a = false) ∧ ∀ x ∈ r, ltS (r.foldl (fun b x => if opS .Gt x b then x else b) a) x = false
  | [], a => ⟨ltS_irrefl a, fun _ h => by cases h⟩
  | y :: r, a => by
    rw [List.foldl_cons]
    by_cases h : opS .Gt y a = true
    · rw [if_pos h]
      obtain ⟨h1, h2⟩ := foldl_max r y
      refine ⟨leS_trans (ltS_asymm (show ltS a y = true from h)) h1, fun x hx => ?_⟩
      rcases List.mem_cons.mp hx with rfl | hx
      · exact h1
      · exact h2 x hx
    · rw [if_neg h]
      obtain ⟨h1, h2⟩ := foldl_max r a
      have h : ltS a y = false := by simpa [opS] using h
      refine ⟨h1, fun x hx => ?_⟩
      rcases List.mem_cons.mp hx with rfl | hx
      · exact leS_trans h h1
      · exact h2 x hx
theorem bestL_le (ls : List (List (List Nat))) : ltS (bestL .Gt ls) (bestL .Lt ls) = false := by
  cases ls with
  | nil => rfl
  | cons a r => exact leS_trans (foldl_min r a).1 (foldl_max r a).1
theorem foldl_mem (op : CmpOp) : ∀ (r : List (List (List Nat))) (a : List (List Nat)), r.foldl (fun b x => if opS op x b then x else b) a = a ∨ r.foldl (fun b x => if opS op x b then x else b) a ∈ r
  | [], a => .inl rfl
  | y :: r, a => by
    rw [List.foldl_cons]
    by_cases h : opS op y a = true
    · rw [if_pos h]
      rcases foldl_mem op r y with e | e
      · exact .inr (by rw [e]; exact List.mem_cons_self)
      · exact .inr (List.mem_cons_of_mem _ e)
    · rw [if_neg h]
      rcases foldl_mem op r a with e | e
      · exact .inl e
      · exact .inr (List.mem_cons_of_mem _ e)
theorem bestL_mem (op : CmpOp) {ls : List (List (List Nat))} (h : ls ≠ []) : bestL op ls ∈ ls := by
  cases ls with
  | nil => exact absurd rfl h
  | cons a r =>
    rcases foldl_mem op r a with e | e
    · show _ ∈ a :: r
      rw [show bestL op (a :: r) = a from e]; exact List.mem_cons_self
    · exact List.mem_cons_of_mem _ e
/-- where the first names are alike, the later list is no shorter -/
theorem le_reach : ∀ {a b : List (List Nat)} {i : Nat}, ltS b a = false → a.take i = b.take i → i < a.length → i < b.length
  | [], _, _, _, _, h => by simp at h
  | _ :: _, [], _, h, _, _ => by cases h
  | x :: a, y :: b, 0, _, _, _ => by simp
  | x :: a, y :: b, i + 1, h, k, l => by
    simp only [List.take_succ_cons, List.cons.injEq] at k
    obtain ⟨rfl, k⟩ := k
    rw [ltS] at h
    simp only [beq_self_eq_true, if_true] at h
    simp only [List.length_cons, Nat.add_lt_add_iff_right] at l ⊢
    exact le_reach h k l
theorem filterMap_if {α β : Type} (f : α → β) (q : α → Bool) : ∀ l : List α, l.filterMap (fun x => if q x then some (f x) else none) = (l.filter q).map f
  | [] => rfl
  | x :: l => by
    rw [List.filterMap_cons, List.filter_cons]
    cases q x with
    | true => simp only [if_true, List.map_cons, filterMap_if f q l]
    | false => simpa using filterMap_if f q l
theorem sumL_filter (q : List Nat → Bool) : ∀ l : List (List Nat), sumL (l.filter q) ≤ sumL l
  | [] => Nat.le_refl _
  | x :: l => by
    have ih := sumL_filter q l
    rw [List.filter_cons]
    cases q x with
    | true => simp only [if_true]; simp [sumL] at ih ⊢; (clear x; (first | lia | omega))
    | false => simp only [Bool.false_eq_true, if_false]; simp [sumL] at ih ⊢; (first | lia | omega)
theorem cpL_two (a b : List (List Nat)) : cpL [a, b] = pfx a b := by
  show pfx (if opS .Lt b a then b else a) (if opS .Gt b a then b else a) = _
  have e1 : opS .Lt b a = ltS b a := rfl
  have e2 : opS .Gt b a = ltS a b := rfl
  rw [e1, e2]
  cases h : ltS b a with
  | true => rw [if_pos rfl, ltS_asymm h, if_neg (by simp)]; exact pfx_comm _ _
  | false =>
    rw [if_neg (by simp)]
    cases k : ltS a b with
    | true => rw [if_pos rfl]
    | false => rw [if_neg (by simp), ltS_conn h k]
end PL

end
section
open PySem PySem.Calls PyProof.Rows
set_option Elab.async false
set_option linter.unusedVariables false
set_option linter.unusedSimpArgs false
set_option linter.unusedSectionVars false
set_option maxRecDepth 100000
namespace PL
section
variable {prog : Program} {w : World} {A : Around} {E : Value → Shared → Prop} {s : Shared}
end
section
variable {C : Cx} {X : XP} {σ : St} {Q : V → St → Prop}
end
end PL

end
section
open PySem PySem.Calls PyProof.Rows
set_option Elab.async false
set_option linter.unusedVariables false
set_option linter.unusedSimpArgs false
set_option linter.unusedSectionVars false
set_option maxRecDepth 100000
namespace PL
/-! where one stands -/
noncomputable def outH (r : Nat) (cs : List (List Nat)) : List Nat := List.replicate r 47 ++ joinS [47] cs
noncomputable def consP (x : Nat) : List (List Nat) → List (List Nat)
  | [] => [[x]]
  | p :: ps => (x :: p) :: ps
theorem splitS_consE (c x : Nat) (r : List Nat) : splitS c (x :: r) = if x = c then [] :: splitS c r else consP x (splitS c r) := by
  show (if x = c then _ else _) = _
  split
  · rfl
  · cases splitS c r <;> rfl
theorem splitS_app (c : Nat) (b : List Nat) : ∀ a : List Nat, splitS c (a ++ c :: b) = splitS c a ++ splitS c b
  | [] => by rw [List.nil_append, splitS_slash]; rfl
  | x :: a => by
    have ih := splitS_app c b a
    rw [List.cons_append, splitS_consE, splitS_consE c x a, ih]
    by_cases h : x = c
    · rw [if_pos h, if_pos h]; rfl
    · rw [if_neg h, if_neg h]
      cases e : splitS c a with
      | nil => exact absurd e (splitS_ne c a)
      | cons p ps => rfl
theorem leadN_cons (x : Nat) (l : List Nat) : leadN (x :: l) = if x = 47 then leadN l + 1 else 0 := by
  unfold leadN
  rw [List.takeWhile_cons]
  by_cases h : x = 47
  · simp [h]
  · simp [h]
/-! one step -/
theorem cut_app_free (c : Nat) : ∀ (a n : List Nat), c ∉ n → cut c (a ++ n) = cut c a
  | [], n, h => by
    rw [List.nil_append]
    induction n with
    | nil => rfl
    | cons x r ih =>
      rw [List.mem_cons, not_or] at h
      show (if cut c r ≠ 0 then cut c r + 1 else if x = c then 1 else 0) = 0
      rw [ih h.2]
      simp [cut, Ne.symm h.1]
  | x :: a, n, h => by
    show (if cut c (a ++ n) ≠ 0 then cut c (a ++ n) + 1 else if x = c then 1 else 0) = (if cut c a ≠ 0 then cut c a + 1 else if x = c then 1 else 0)
    rw [cut_app_free c a n h]
theorem cut_end (c : Nat) : ∀ a : List Nat, cut c (a ++ [c]) = a.length + 1
  | [] => by simp [cut]
  | x :: a => by
    show (if cut c (a ++ [c]) ≠ 0 then cut c (a ++ [c]) + 1 else if x = c then 1 else 0) = _
    rw [cut_end c a, if_pos (by (clear x c; (first | lia | omega))), List.length_cons]
theorem rstrip_free {l : List Nat} (h : ¬ lastIs 47 l = true) : rstripS 47 l = l := by
  unfold rstripS
  unfold lastIs at h
  rw [beq_iff_eq] at h
  rcases List.eq_nil_or_concat l with h0 | ⟨l', x, h0⟩
  · subst h0; rfl
  · rw [List.concat_eq_append] at h0
    subst h0
    rw [List.getLast?_concat] at h
    have hx : (x == 47) = false := by simpa using h
    rw [List.reverse_append, List.reverse_singleton, List.singleton_append, List.dropWhile_cons, hx]
    simp
theorem rstrip_one (l : List Nat) : rstripS 47 (l ++ [47]) = rstripS 47 l := by
  unfold rstripS
  rw [List.reverse_append, List.reverse_singleton, List.singleton_append, List.dropWhile_cons]
  rfl
/-! how many slashes are ahead -/
theorem rstrip_len : ∀ l : List Nat, (rstripS 47 l).length ≤ l.length := fun l => by
  unfold rstripS
  rw [List.length_reverse]
  have : (l.reverse.dropWhile (· == 47)).length ≤ l.reverse.length := (List.dropWhile_sublist _).length_le
  simpa using this
end PL

end
section
open PySem PySem.Calls PyProof.Rows
set_option Elab.async false
set_option linter.unusedVariables false
set_option linter.unusedSimpArgs false
set_option linter.unusedSectionVars false
set_option maxRecDepth 100000
namespace PL
/-! the tree of places below a root -/
noncomputable abbrev Lc := List (List (List Nat))
noncomputable def names? (cs : List (List Nat)) : Prop := ∀ c ∈ cs, nameN c
theorem step_ddr {r : Nat} (hr : 0 < r) {cs : List (List Nat)} (h : names? cs) : stepN r cs dd = cs.dropLast := by
  unfold stepN
  rw [if_neg (by decide), if_neg]
  rintro (q | ⟨q, _⟩ | ⟨q, q2⟩)
  · exact q rfl
  · (clear h; (first | lia | omega))
  · have hm : dd ∈ cs := List.mem_of_getElem? q2
    exact (h dd hm).2.2.1 rfl
end PL

end
section
open PySem PySem.Calls PyProof.Rows
set_option Elab.async false
set_option linter.unusedVariables false
set_option linter.unusedSimpArgs false
set_option linter.unusedSectionVars false
set_option maxRecDepth 100000
namespace PL
noncomputable def isStar : Expr → Bool
  | .Starred .. => true
  | _ => false
/-! several names at once, and a starred argument -/
section
variable {C : Cx} {X : XP} {σ : St} {g : Gd} {n : Nat} {sc : Scope}
theorem TArgs.mono {es : List Expr} {P Q : List V → St → Prop} (h : TArgs C es P X σ) (k : ∀ vs σ', P vs σ' → Q vs σ') : TArgs C es Q X σ := fun pos z₀ => (h pos z₀).mono fun z xs σ' _ ⟨vs, r, q⟩ => ⟨vs, r, k _ _ q⟩
theorem swaps_two {env : Env} {x y : Str} {px py p1 p2 : Pos} {k k2 : Nat} {es : List Expr} (hx : env.kindOf x = some .local) (hy : env.kindOf y = some .local) (hb : (env.blockKind != .function) = false) (hne : x ≠ y)
    (he : es.length = 2) (hst : ∀ e ∈ es, isStar e = false) (h1 : (px.line == px.line) = true) (h2 : (py.line == px.line) = true) (h3 : es.all (foldedForSure 8) = false) (h4 : es.all (constantsAlone 8) = false) :
    swappedStores [.Tuple [.Name x px, .Name y py] k p1] (.Tuple es k2 p2) env = Pure.pure (some [x, y]) := by
  have hxy : (x == y) = false := by simpa using hne
  have hyx : (y == x) = false := by simpa using Ne.symm hne
  unfold swappedStores
  have e1 : (Expr.Name x px).pos = px := rfl
  simp only [List.length_cons, List.length_nil, he, hb, hx, hy, h2, e1, List.head?_cons, Option.map_some, Option.getD_some, List.filterMap_cons, List.filterMap_nil, h1, beq_self_eq_true, Bool.and_self, if_true]
  have ed : [x, y].eraseDups.length = 2 := by simp [List.eraseDups_cons, hyx]
  rw [if_neg (by decide), if_neg, if_neg (by rw [ed]; decide), if_neg (by rw [h3]; decide), if_neg (by rw [h4]; decide)]
  intro q
  rw [List.any_eq_true] at q
  obtain ⟨e, hm, hq⟩ := q
  exact absurd (show isStar e = true from hq) (by rw [hst e hm]; decide)
theorem unpack_stores {names : List Str} {vs : List V} {Q : Fl → St → Prop} (hh : C.A.handled = none) (hlen : names.length = vs.length) {z₀ : Z} {x : Value} (r : Rep z₀ (.tup vs) x) (ev : Value) (stores : List (Value → Sem Unit))
    (h : ∀ z xs, Z.le z₀ z → RepL z vs xs → TT C z (assignInOrder (names.reverse.map fun n => bindName C.env n) xs.reverse) (fun _ _ σ' => Q .next σ') X σ) : TT C z₀ (assignStores C.env x (some names) stores) (PFl Q) X σ := by
  intro zs z s hz hR
  obtain ⟨a, items, k, rfl, e, rl⟩ := rep_tupO (r.mono hz) hR
  unfold assignStores
  dsimp only
  refine wpAny_bind (wpAny_rule ?_)
  have hn : names.length = items.toArray.size := by rw [hlen, List.size_toArray, rl.length]
  rw [hn]
  refine wpAny_bind (wpAny_unpackItems_tuple hh (isTuple_of e) fun h' hx => ?_)
  have R' : R C zs σ z { s with heap := h' } := hR.grow (t := s.toks) fun b o eb => hx b o (Nat.ne_of_lt (Heap.lt_size eb)) eb
  refine wpAny_bind (wpAny_mono (h z items hz rl zs z _ (Z.le_refl _) R') ?_ fun _ _ x => x)
  rintro ⟨⟩ s2 ⟨z2, σ2, l2, R2, q⟩
  exact wpAny_pure ⟨z2, σ2, l2, R2, .next, .next, q⟩
theorem TS.swap2 {x y : Str} {px py p1 p2 p : Pos} {k k2 : Nat} {es : List Expr} {Q : Fl → St → Prop} (hIn : In C g n sc) (hx : sc.names.lookup x = some .local) (hy : sc.names.lookup y = some .local) (hne : x ≠ y)
    (h : TArgs C es (fun vs σ1 => vs.length ≤ 16777216 ∧ ∃ u v, vs = [u, v] ∧ Q .next ⟨setL (setL σ1.loc y v) x u, σ1.H⟩) X σ)
    (he : es.length = 2 := by rfl) (hst : ∀ e ∈ es, isStar e = false := by simp [isStar]) (h2 : (py.line == px.line) = true := by rfl) (h3 : es.all (foldedForSure 8) = false := by decide +kernel) (h4 : es.all (constantsAlone 8) = false := by decide +kernel)
    (hs : swapsWithSole [.Tuple [.Name x px, .Name y py] k p1] (.Tuple es k2 p2) p.line C.env = Pure.pure false := by rfl) :
    TS C (.Assign [.Tuple [.Name x px, .Name y py] k p1] (.Tuple es k2 p2) p) Q X σ := by
  intro z₀
  rw [arm_exec_Assign]
  refine TT.at_ ?_
  rw [hs]
  refine TT.bind (TT.pure fun z1 l1 => ?_)
  rw [if_neg Bool.false_ne_true]
  refine TT.bind (TT.mono (TE.tuple (Q := fun v σ1 => ∃ u w, v = .tup [u, w] ∧ Q .next ⟨setL (setL σ1.loc y w) x u, σ1.H⟩) (h.mono fun vs σ1 ⟨a, u, w, b, c⟩ => ⟨a, u, w, by rw [b], c⟩) z1) ?_)
  rintro z2 val σ1 l2 ⟨v, rv, u, w, rfl, hq⟩
  have hb : (C.env.blockKind != .function) = false := by unfold Env.blockKind; rw [C.hk]; rfl
  rw [swaps_two ((hIn.kind x).trans hx) ((hIn.kind y).trans hy) hb hne he hst (by simp) h2 h3 h4]
  refine TT.bind (TT.pure fun z3 l3 => ?_)
  refine unpack_stores hIn.calm rfl (rv.mono l3) val _ fun z xs lz rl => ?_
  have rlq := RepL.inv rl; clear rl; obtain ⟨_, _, rfl, r1, t⟩ := rlq
  have tq := RepL.inv t; clear t; obtain ⟨_, _, rfl, r2, t⟩ := tq
  cases t.inv0; clear t
  show TT C z (do PySem.holding _ (bindName C.env y _); assignInOrder [fun v => bindName C.env x v] [_]) _ X σ1
  refine TT.bind (TT.holding (TT.store (.loc ((hIn.kind y).trans hy)) r2 fun z5 l5 => ?_))
  show TT C z5 (do PySem.holding _ (bindName C.env x _); assignInOrder [] []) _ X _
  refine TT.bind (TT.holding (TT.store (.loc ((hIn.kind x).trans hx)) (r1.mono l5) fun z6 l6 => ?_))
  exact TT.pure fun _ _ => hq
end
end PL

end
section
open PySem PySem.Calls PyProof.Rows
set_option Elab.async false
set_option linter.unusedVariables false
set_option linter.unusedSimpArgs false
set_option linter.unusedSectionVars false
set_option maxRecDepth 100000
namespace PL
theorem len_two {α : Type} {xs : List α} (h : xs.length = 2) : ∃ x y, xs = [x, y] := by
  match xs, h with
  | [x, y], _ => exact ⟨x, y, rfl⟩
theorem len_three {α : Type} {xs : List α} (h : xs.length = 3) : ∃ x y w, xs = [x, y, w] := by
  match xs, h with
  | [x, y, w], _ => exact ⟨x, y, w, rfl⟩
theorem len_four {α : Type} {xs : List α} (h : xs.length = 4) : ∃ x y w v, xs = [x, y, w, v] := by
  match xs, h with
  | [x, y, w, v], _ => exact ⟨x, y, w, v, rfl⟩
/-! slices: all but the last, turned round -/
theorem sl_kend {α : Type} (l : List α) (k : Nat) : sl l (some (k : Int)) (some (-1)) = l.dropLast.drop k := by
  have h1 : clipAt l.length (k : Int) = min k l.length := clip_nat _ _
  have h2 : clipAt l.length (-1) = l.length - 1 := clip_m1 _
  show (l.drop (clipAt l.length (k : Int))).take (clipAt l.length (-1) - clipAt l.length (k : Int)) = _
  rw [h1, h2, List.dropLast_eq_take, List.drop_take]
  by_cases h : k ≤ l.length
  · rw [Nat.min_eq_left h]
  · rw [Nat.min_eq_right (by (clear h2 h1; (first | lia | omega))), List.drop_of_length_le (Nat.le_refl _), List.drop_of_length_le (l := l) (i := k) (by (clear h2 h1; (first | lia | omega))), List.take_nil, List.take_nil]
section
variable {C : Cx} {X : XP} {σ : St} {Q : V → St → Prop}
/-- an item by a number that is no less than nought; by -1 -/
theorem Item.listN {v : V} {vs : List V} {j : Nat} {u : V} (hl : IsL σ v vs) (hn : vs.length ≤ 16777216) (hu : vs[j]? = some u) (h : Q u σ) : Item C v (.int (j : Int)) Q X σ :=
  Item.list hl hn ⟨if_neg (Int.not_lt.mpr (Int.natCast_nonneg j)), (List.getElem?_eq_some_iff.mp hu).1⟩ hu h
theorem Item.listZ {v : V} {vs : List V} {k : Nat} {u : V} (hl : IsL σ v vs) (hn : vs.length ≤ 16777216) (hk : vs.length = k + 1) (hu : vs[k]? = some u) (h : Q u σ) : Item C v (.int (-1)) Q X σ :=
  Item.list (j := k) hl hn ⟨by rw [if_pos (by decide), hk]; (clear h hu hk hn hl u v vs; (first | lia | omega)), (List.getElem?_eq_some_iff.mp hu).1⟩ hu h
theorem Item.tupN {vs : List V} {j : Nat} {u : V} (hn : vs.length ≤ 16777216) (hu : vs[j]? = some u) (h : Q u σ) : Item C (.tup vs) (.int (j : Int)) Q X σ :=
  Item.tup hn ⟨if_neg (Int.not_lt.mpr (Int.natCast_nonneg j)), (List.getElem?_eq_some_iff.mp hu).1⟩ hu h
end
end PL

end
section
open PySem PySem.Calls PyProof.Rows
set_option Elab.async false
set_option linter.unusedVariables false
set_option linter.unusedSimpArgs false
set_option linter.unusedSectionVars false
set_option maxRecDepth 100000
namespace PL
/-! list.extend, list.index -/
section
variable {C : Cx} {X : XP} {σ : St} {Q : V → St → Prop}
end
end PL

end
section
open PySem PySem.Calls PyProof.Rows
set_option Elab.async false
set_option linter.unusedVariables false
set_option linter.unusedSimpArgs false
set_option linter.unusedSectionVars false
set_option maxRecDepth 100000
namespace PL
/-! what a rooted text says of a place -/
theorem names_ok {cs : List (List Nat)} (h : names? cs) : ∀ c ∈ cs, c ≠ [] ∧ 47 ∉ c := fun c hc => ⟨(h c hc).1, (h c hc).2.2.2⟩
/-! one step up -/
/-! two places -/
/-! up by two dots -/
/-! a beginning of the text -/
/-! the names on a line -/
theorem fold_mem (r : Nat) : ∀ (ps acc : List (List Nat)) {c : List Nat}, c ∈ ps.foldl (stepN r) acc → c ∈ acc ∨ c ∈ ps
  | [], acc, c, h => .inl h
  | p :: ps, acc, c, h => by
    rcases fold_mem r ps _ h with h | h
    · unfold stepN at h
      split at h
      · exact .inl h
      · split at h
        · rcases List.mem_append.mp h with h | h
          · exact .inl h
          · exact .inr (by rw [List.mem_singleton.mp h]; exact List.mem_cons_self)
        · exact .inl (List.dropLast_subset _ h)
    · exact .inr (List.mem_cons_of_mem _ h)
end PL

end
section
open PySem PySem.Calls PyProof.Rows
set_option Elab.async false
set_option linter.unusedVariables false
set_option linter.unusedSimpArgs false
set_option linter.unusedSectionVars false
set_option maxRecDepth 100000
namespace PL
/-! one name takes the one item of a set of truth values -/
section
variable {C : Cx} {X : XP} {σ : St}
end
end PL

end
section
open PySem PySem.Calls PyProof.Rows PySem.SeqAt
set_option Elab.async false
set_option linter.unusedVariables false
set_option linter.unusedSimpArgs false
set_option linter.unusedSectionVars false
set_option maxRecDepth 100000
namespace PL
/-! a text among texts -/
theorem sl_end {α : Type} (l : List α) : sl l none (some (-1)) = l.dropLast := (sl_kend l 0).trans (List.drop_zero ..)
/-- the answer for an item of a list of texts -/
noncomputable def isT (o : Bool) (m : List Nat) : Value → Bool
  | .str s _ => s.cps.toList == m
  | .bytes b _ => b.toList == m.map UInt8.ofNat
  | _ => false
theorem isT_at {z : Z} {o : Bool} {m : List Nat} {x : Value} (rx : Rep z (.txt o m) x) {p : List Nat} {y : Value} (r : Rep z (.txt o p) y) : isT o m y = (p == m) := by
  have rq := r.txt_; clear r; rcases rq with ⟨rfl, t, rfl⟩ | ⟨rfl, t, rfl, h⟩
  · rfl
  · cases rx with | bytes _ u k => show (((p.map UInt8.ofNat).toArray).toList == _) = _; rw [List.toList_toArray]; exact beq_ofNat h k
theorem txtsAny {z : Z} {o : Bool} {m : List Nat} {x : Value} (rx : Rep z (.txt o m) x) {ps : List (List Nat)} : ∀ {xs : List Value}, RepL z (ps.map (.txt o)) xs → (∀ y ∈ xs, ∃ p, Rep z (.txt o p) y) ∧ xs.any (isT o m) = decide (m ∈ ps) := by
  induction ps with
  | nil => intro xs r; cases r.inv0; exact ⟨fun y h => (nomatch h), rfl⟩
  | cons p ps ih =>
    intro xs r
    have rq := RepL.inv r; clear r; obtain ⟨_, _, rfl, q, h⟩ := rq
    obtain ⟨h1, h2⟩ := ih h
    refine ⟨fun y hy => ?_, ?_⟩
    · rcases List.mem_cons.mp hy with rfl | hy
      · exact ⟨_, q⟩
      · exact h1 y hy
    · rw [List.any_cons, h2, isT_at rx q, Bool.eq_iff_iff, Bool.or_eq_true, decide_eq_true_eq, decide_eq_true_eq, List.mem_cons, beq_iff_eq, eq_comm]
section
variable {C : Cx} {X : XP} {σ : St} {Q : V → St → Prop}
theorem isT_eq {z : Z} {A : Around} {s : Shared} {o : Bool} {m : List Nat} {x y : Value} (rx : Rep z (.txt o m) x) (h : ∃ p, Rep z (.txt o p) y) : EqAt A s y x (isT o m y) := by
  obtain ⟨p, r⟩ := h; rw [isT_at rx r]; exact EqAt.txt r rx
end
end PL

end
section
open PySem PySem.Calls PyProof.Rows PySem.SeqAt
set_option Elab.async false
set_option linter.unusedVariables false
set_option linter.unusedSimpArgs false
set_option linter.unusedSectionVars false
set_option maxRecDepth 100000
namespace PL
section
variable {C : Cx} {X : XP} {σ : St} {Q : V → St → Prop}
end
/-! a live list within a live list -/
section
variable {C : Cx} {X : XP} {σ : St}
end
/-! the list of some octets -/
section
variable {prog : Program} {w : World} {A : Around} {E : Value → Shared → Prop} {s : Shared}
end
section
variable {C : Cx} {X : XP} {σ : St} {Q : V → St → Prop}
end
end PL

end
section
open PySem PySem.Calls PyProof.Rows
set_option Elab.async false
set_option linter.unusedVariables false
set_option linter.unusedSimpArgs false
set_option linter.unusedSectionVars false
set_option maxRecDepth 100000
namespace PL
/-! rows of pieces: what the path functions do to them -/
theorem joinS_cons (c : Nat) (p : List Nat) {ps : List (List Nat)} (h : ps ≠ []) : joinS [c] (p :: ps) = p ++ c :: joinS [c] ps := by
  cases ps with
  | nil => exact absurd rfl h
  | cons q r => show p ++ [c] ++ joinS [c] (q :: r) = _; simp
theorem joinS_splitS (c : Nat) : ∀ l : List Nat, joinS [c] (splitS c l) = l
  | [] => rfl
  | x :: l => by
    have ih := joinS_splitS c l
    rw [splitS_consE]
    by_cases h : x = c
    · rw [if_pos h, joinS_cons c _ (splitS_ne c l), ih, h]; rfl
    · rw [if_neg h]
      cases e : splitS c l with
      | nil => exact absurd e (splitS_ne c l)
      | cons p ps =>
        rw [e] at ih
        unfold consP
        cases ps with
        | nil => show x :: p = _; rw [← ih]; rfl
        | cons q r => rw [joinS_cons c _ (by simp)] at ih ⊢; rw [← ih]; rfl
/-! the slashes at the front -/
theorem rootN_le_lead (l : List Nat) : rootN l ≤ leadN l := by
  rw [rootN_lead]; split
  · (first | lia | omega)
  · split <;> (first | lia | omega)
/-! join -/
/-! head -/
theorem rstrip_many (l : List Nat) : ∀ k : Nat, rstripS 47 (l ++ List.replicate k 47) = rstripS 47 l
  | 0 => by simp
  | k + 1 => by rw [List.replicate_succ', ← List.append_assoc, rstrip_one, rstrip_many l k]
end PL

end
section
open PySem PySem.Calls PyProof.Rows
set_option Elab.async false
set_option linter.unusedVariables false
set_option linter.unusedSimpArgs false
set_option linter.unusedSectionVars false
set_option maxRecDepth 100000
namespace PL
/-! how far below the start, and the names -/
noncomputable def stepH (a : Nat × List (List Nat)) (p : List Nat) : Nat × List (List Nat) :=
  if p = dd then (if a.2 = [] then (a.1 + 1, []) else (a.1, a.2.dropLast)) else if p ≠ [] ∧ p ≠ [46] then (a.1, a.2 ++ [p]) else a
noncomputable def foldH (ps : List (List Nat)) : Nat × List (List Nat) := ps.foldl stepH (0, [])
theorem stepH_names {a : Nat × List (List Nat)} {p : List Nat} (ha : names? a.2) (hp : 47 ∉ p) : names? (stepH a p).2 := by
  unfold stepH
  split
  · split
    · intro c hc; cases hc
    · exact fun c hc => ha c (List.dropLast_subset _ hc)
  · split
    · rename_i h1 h2
      intro c hc
      rcases List.mem_append.mp hc with hc | hc
      · exact ha c hc
      · rw [List.mem_singleton.mp hc]; exact ⟨h2.1, h2.2, h1, hp⟩
    · exact ha
theorem foldH_names : ∀ (ps : List (List Nat)) (a : Nat × List (List Nat)), names? a.2 → (∀ p ∈ ps, 47 ∉ p) → names? (ps.foldl stepH a).2
  | [], a, h, _ => h
  | p :: ps, a, h, k => foldH_names ps _ (stepH_names h (k p (by simp))) fun q hq => k q (List.mem_cons_of_mem _ hq)
theorem step_H0 {a : Nat × List (List Nat)} {p : List Nat} (ha : names? a.2) : stepN 0 (List.replicate a.1 dd ++ a.2) p = List.replicate (stepH a p).1 dd ++ (stepH a p).2 := by
  obtain ⟨d, cs⟩ := a
  unfold stepH
  by_cases h1 : p = dd
  · subst h1
    rw [if_pos rfl]
    rcases List.eq_nil_or_concat cs with q | ⟨cs', c, q⟩
    · subst q
      rw [if_pos rfl]
      show stepN 0 (List.replicate d dd ++ []) dd = List.replicate (d + 1) dd ++ []
      rw [List.append_nil, List.append_nil, step_dd0]
    · rw [List.concat_eq_append] at q
      subst q
      rw [if_neg (by simp)]
      show stepN 0 (List.replicate d dd ++ (cs' ++ [c])) dd = List.replicate d dd ++ (cs' ++ [c]).dropLast
      rw [← List.append_assoc, step_up (ha c (by simp)), List.dropLast_concat]
  · rw [if_neg h1]
    by_cases h2 : p ≠ [] ∧ p ≠ [46]
    · rw [if_pos h2]
      unfold stepN
      rw [if_neg (fun q => q.elim h2.1 h2.2), if_pos (.inl h1), List.append_assoc]
    · rw [if_neg h2]
      unfold stepN
      rw [if_pos]
      by_cases q : p = []
      · exact .inl q
      · exact .inr (Decidable.byContradiction fun x => h2 ⟨q, x⟩)
theorem step_Hr {r : Nat} (hr : 0 < r) {a : Nat × List (List Nat)} {p : List Nat} (ha : names? a.2) : stepN r a.2 p = (stepH a p).2 := by
  obtain ⟨d, cs⟩ := a
  unfold stepH
  by_cases h1 : p = dd
  · subst h1
    rw [if_pos rfl, step_ddr hr ha]
    rcases List.eq_nil_or_concat cs with q | ⟨cs', c, q⟩
    · subst q; rfl
    · rw [List.concat_eq_append] at q
      subst q
      rw [if_neg (by simp)]
  · rw [if_neg h1]
    by_cases h2 : p ≠ [] ∧ p ≠ [46]
    · rw [if_pos h2]
      unfold stepN
      rw [if_neg (fun q => q.elim h2.1 h2.2), if_pos (.inl h1)]
    · rw [if_neg h2]
      unfold stepN
      rw [if_pos]
      by_cases q : p = []
      · exact .inl q
      · exact .inr (Decidable.byContradiction fun x => h2 ⟨q, x⟩)
theorem fold_H0 : ∀ (ps : List (List Nat)) (a : Nat × List (List Nat)), names? a.2 → (∀ p ∈ ps, 47 ∉ p) → ps.foldl (stepN 0) (List.replicate a.1 dd ++ a.2) = List.replicate (ps.foldl stepH a).1 dd ++ (ps.foldl stepH a).2
  | [], a, _, _ => rfl
  | p :: ps, a, h, k => by
    rw [List.foldl_cons, List.foldl_cons, step_H0 h]
    exact fold_H0 ps _ (stepH_names h (k p (by simp))) fun q hq => k q (List.mem_cons_of_mem _ hq)
theorem fold_Hr {r : Nat} (hr : 0 < r) : ∀ (ps : List (List Nat)) (a : Nat × List (List Nat)), names? a.2 → (∀ p ∈ ps, 47 ∉ p) → ps.foldl (stepN r) a.2 = (ps.foldl stepH a).2
  | [], a, _, _ => rfl
  | p :: ps, a, h, k => by
    rw [List.foldl_cons, List.foldl_cons, step_Hr hr h]
    exact fold_Hr hr ps _ (stepH_names h (k p (by simp))) fun q hq => k q (List.mem_cons_of_mem _ hq)
noncomputable def orL (a b : List (List Nat)) : List (List Nat) := if a = [] then b else a
theorem split_join0 {cs : List (List Nat)} (h : ∀ c ∈ cs, 47 ∉ c) : splitS 47 (joinS [47] cs) = orL cs [[]] := by
  unfold orL
  by_cases q : cs = []
  · subst q; rfl
  · rw [if_neg q, splitS_join 47 cs q h]
theorem names_free {cs : List (List Nat)} (h : names? cs) : ∀ c ∈ cs, 47 ∉ c := fun c hc => (h c hc).2.2.2
theorem split_norm (l : List Nat) : splitS 47 (normS l) = if leadN l = 0 then orL (List.replicate (foldH (splitS 47 l)).1 dd ++ (foldH (splitS 47 l)).2) [[46]] else List.replicate (if leadN l = 2 then 2 else 1) [] ++ orL (foldH (splitS 47 l)).2 [[]] := by
  have hfree : ∀ p ∈ splitS 47 l, 47 ∉ p := fun p hp => splitS_free 47 hp
  have hn : names? (foldH (splitS 47 l)).2 := foldH_names _ (0, []) (fun c hc => by cases hc) hfree
  rw [normS_eq]
  by_cases h : leadN l = 0
  · rw [if_pos h]
    have hr : rootN l = 0 := by have := rootN_le_lead l; (clear hn hfree; (first | lia | omega))
    have e : normC 0 (splitS 47 l) = List.replicate (foldH (splitS 47 l)).1 dd ++ (foldH (splitS 47 l)).2 := fold_H0 (splitS 47 l) (0, []) (fun c hc => by cases hc) hfree
    rw [hr, e]
    generalize hx : List.replicate (foldH (splitS 47 l)).1 dd ++ (foldH (splitS 47 l)).2 = x
    have hx2 : ∀ c ∈ x, c ≠ [] ∧ 47 ∉ c := fun c hc => by
      rw [← hx] at hc
      rcases List.mem_append.mp hc with hc | hc
      · rw [(List.mem_replicate.mp hc).2]; decide
      · exact names_ok hn c hc
    unfold outS orL
    rw [List.replicate_zero, List.nil_append]
    by_cases q : x = []
    · subst q; rfl
    · have hj : joinS [47] x ≠ [] := by
        intro hj
        have := splitS_join 47 x q fun c hc => (hx2 c hc).2
        rw [hj] at this
        exact (hx2 [] (by rw [← this]; exact List.mem_singleton.mpr rfl)).1 rfl
      rw [if_neg q, if_neg hj, splitS_join 47 x q fun c hc => (hx2 c hc).2]
  · rw [if_neg h]
    have hr : rootN l = if leadN l = 2 then 2 else 1 := by
      rw [rootN_lead]
      by_cases q : leadN l = 2
      · rw [if_pos q, if_pos q]
      · rw [if_neg q, if_neg q, if_pos (Nat.pos_of_ne_zero h)]
    have hr0 : 0 < rootN l := by rw [hr]; split <;> decide
    have e : normC (rootN l) (splitS 47 l) = (foldH (splitS 47 l)).2 := fold_Hr hr0 (splitS 47 l) (0, []) (fun c hc => by cases hc) hfree
    rw [e, ← hr]
    unfold outS
    rw [if_neg, splitS_rep, split_join0 (names_free hn)]
    rw [List.append_eq_nil_iff]
    rintro ⟨q, _⟩
    rw [List.replicate_eq_nil_iff] at q; (clear e h hn hfree hr; (first | lia | omega))
/-! what two begin with -/
theorem joinS_filter_len (f : List Nat → Bool) (l : List Nat) : (joinS [47] ((splitS 47 l).filter f)).length ≤ l.length := by
  have h1 := joinS_length [47] (splitS 47 l)
  rw [joinS_splitS] at h1
  have h2 := joinS_length [47] ((splitS 47 l).filter f)
  have h3 := sumL_filter f (splitS 47 l)
  have h4 := List.length_filter_le f (splitS 47 l)
  unfold sumL at h3
  simp only [List.length_singleton] at h1 h2
  (first | lia | omega)
theorem pfx_join_len (a b : List (List Nat)) : (joinS [47] (pfx a b)).length ≤ (joinS [47] a).length := by
  obtain ⟨k, h⟩ := pfx_len a b
  rw [h, joinS_length, joinS_length]
  have h1 := sumL_take a k
  unfold sumL at h1
  have h2 := List.length_take_le' k a
  simp only [List.length_singleton]
  (clear h b; (first | lia | omega))
theorem cp_short (p q : List Nat) : 2 * (cpS [p, q]).length ≤ p.length + q.length + 2 := by
  have h1 := pfx_join_len (compsS p) (compsS q)
  have h2 := pfx_join_len (compsS q) (compsS p)
  rw [pfx_comm (compsS q) (compsS p)] at h2
  have h3 : (joinS [47] (compsS p)).length ≤ p.length := joinS_filter_len nm? p
  have h4 : (joinS [47] (compsS q)).length ≤ q.length := joinS_filter_len nm? q
  have h5 : (cpS [p, q]).length ≤ 1 + (joinS [47] (pfx (compsS p) (compsS q))).length := by
    unfold cpS
    rw [List.length_append, List.map_cons, List.map_cons, List.map_nil, cpL_two]
    split
    · exact Nat.le_refl _
    · rw [List.length_nil]; (clear h4 h3 h2 h1; (first | lia | omega))
  (first | lia | omega)
end PL

end
section
open PySem PySem.Calls PyProof.Rows
set_option Elab.async false
set_option linter.unusedVariables false
set_option linter.unusedSimpArgs false
set_option linter.unusedSectionVars false
set_option maxRecDepth 100000
namespace PL
/-! the ending of a name -/
noncomputable def atN (n : List Nat) : Nat := if (n.take (cut 46 n - 1)).all (· == 46) then n.length else cut 46 n - 1
noncomputable def extN (p : List Nat) : Nat := cut 47 p + atN (baseS p)
theorem take_all {n : List Nat} {k : Nat} (h : ∀ i, i < k → n[i]? = some 46) : (n.take k).all (· == 46) = true := by
  rw [List.all_eq_true]
  intro x hx
  obtain ⟨i, hi⟩ := List.mem_iff_getElem?.mp hx
  rw [List.getElem?_take] at hi
  by_cases q : i < k
  · rw [if_pos q, h i q] at hi; cases hi; rfl
  · rw [if_neg q] at hi; cases hi
theorem take_not {n : List Nat} {k i : Nat} (hk : i < k) (hi : i < n.length) (h : n[i]? ≠ some 46) : (n.take k).all (· == 46) = false := by
  rw [List.all_eq_false]
  refine ⟨n[i], List.mem_iff_getElem?.mpr ⟨i, by rw [List.getElem?_take, if_pos hk, List.getElem?_eq_getElem hi]⟩, fun q => h ?_⟩
  rw [List.getElem?_eq_getElem hi, beq_iff_eq.mp q]
theorem atN_none {n : List Nat} {f : Nat} (hf : ∀ i, i < f → n[i]? = some 46) (h : ∀ i, f ≤ i → n[i]? ≠ some 46) : atN n = n.length := by
  unfold atN
  rw [if_pos]
  apply take_all
  intro i hi
  rcases cut_spec 46 n with ⟨h0, _⟩ | ⟨k, h0, h1, _⟩
  · (clear h hf f; (first | lia | omega))
  · have : k < f := by
      rcases Nat.lt_or_ge k f with q | q
      · exact q
      · exact absurd h1 (h k q)
    exact hf i (by (clear h1 h hf; (first | lia | omega)))
theorem atN_some {n : List Nat} {f a : Nat} (hff : n[f]? ≠ some 46) (hfa : f ≤ a) (ha : n[a]? = some 46) (h : ∀ i, a < i → n[i]? ≠ some 46) : atN n = a := by
  have hc : cut 46 n = a + 1 := by
    rcases cut_spec 46 n with ⟨h0, h1⟩ | ⟨k, h0, h1, h2⟩
    · exact absurd ha (h1 a)
    · have a1 : ¬ a < k := fun q => h k q h1
      have a2 : ¬ k < a := fun q => h2 a q ha
      (clear h2 h1 h ha hfa hff f; (first | lia | omega))
  have hal := (List.getElem?_eq_some_iff.mp ha).1
  have hlt : f < a := by
    rcases Nat.lt_or_ge f a with q | q
    · exact q
    · have : f = a := by (clear hal h ha hff hc n; (first | lia | omega))
      subst this; exact absurd ha hff
  unfold atN
  rw [hc, Nat.add_sub_cancel, if_neg]
  rw [take_not hlt (by (clear h ha hfa hff hc; (first | lia | omega))) hff]; decide
theorem cut_app (c : Nat) : ∀ a b : List Nat, cut c (a ++ b) = if cut c b = 0 then cut c a else a.length + cut c b
  | [], b => by rw [List.nil_append]; split <;> simp_all [cut]
  | x :: a, b => by
    have ih := cut_app c a b
    show (if cut c (a ++ b) ≠ 0 then cut c (a ++ b) + 1 else if x = c then 1 else 0) = _
    rw [ih]
    by_cases h : cut c b = 0
    · rw [if_pos h, if_pos h]; rfl
    · rw [if_neg h, if_neg h, if_pos (by (clear ih x; (first | lia | omega))), List.length_cons]; (clear h ih x; (first | lia | omega))
/-- the last dot of a path, seen from its name -/
theorem dot_name (p : List Nat) : (cut 47 p < cut 46 p ↔ 0 < cut 46 (baseS p)) ∧ (0 < cut 46 (baseS p) → cut 46 p = cut 47 p + cut 46 (baseS p)) := by
  have h := cut_app 46 (p.take (cut 47 p)) (p.drop (cut 47 p))
  rw [List.take_append_drop] at h
  have hl := cut_le 46 (p.take (cut 47 p))
  have hc := cut_le 47 p
  rw [List.length_take, Nat.min_eq_left hc] at hl h
  unfold baseS
  by_cases q : cut 46 (p.drop (cut 47 p)) = 0
  · rw [if_pos q] at h; (clear hc; (first | lia | omega))
  · rw [if_neg q] at h; (clear q hc hl; (first | lia | omega))
theorem base_get (p : List Nat) (i : Nat) : (baseS p)[i]? = p[cut 47 p + i]? := by unfold baseS; rw [List.getElem?_drop]
end PL

end
section
open PySem PySem.Calls PyProof.Rows
set_option Elab.async false
set_option linter.unusedVariables false
set_option linter.unusedSimpArgs false
set_option linter.unusedSectionVars false
set_option maxRecDepth 100000
namespace PL
section
variable {C : Cx} {X : XP} {σ : St} {Q : V → St → Prop}
end
/-! lengths -/
theorem split_len (l : List Nat) : sumL (splitS 47 l) + (splitS 47 l).length = l.length + 1 := by
  have h1 := joinS_length [47] (splitS 47 l)
  rw [joinS_splitS] at h1
  have h2 := List.length_pos_iff.mpr (splitS_ne 47 l)
  simp only [List.length_singleton] at h1
  unfold sumL
  (first | lia | omega)
theorem foldH_weight : ∀ (ps : List (List Nat)) (a : Nat × List (List Nat)), 3 * (ps.foldl stepH a).1 + sumL (ps.foldl stepH a).2 + (ps.foldl stepH a).2.length ≤ 3 * a.1 + sumL a.2 + a.2.length + sumL ps + ps.length
  | [], a => by simp [sumL]
  | p :: ps, a => by
    rw [List.foldl_cons, List.length_cons]
    have h1 := foldH_weight ps (stepH a p)
    have h3 : sumL (p :: ps) = p.length + sumL ps := by simp [sumL]
    have h2 : 3 * (stepH a p).1 + sumL (stepH a p).2 + (stepH a p).2.length ≤ 3 * a.1 + sumL a.2 + a.2.length + p.length + 1 := by
      unfold stepH
      by_cases q : p = dd
      · rw [if_pos q, q]
        by_cases q2 : a.2 = []
        · rw [if_pos q2, q2]; simp [sumL]; (clear q2 q h3 h1 ps p; (first | lia | omega))
        · rw [if_neg q2]
          have := sumL_take a.2 (a.2.length - 1)
          rw [← List.dropLast_eq_take] at this
          rw [List.length_dropLast]; simp only [List.length_cons, List.length_nil]; (clear q2 q h3 h1 ps p; (first | lia | omega))
      · rw [if_neg q]
        by_cases q2 : p ≠ [] ∧ p ≠ [46]
        · rw [if_pos q2]
          have : sumL (a.2 ++ [p]) = sumL a.2 + p.length := by rw [sumL_append]; simp [sumL]
          rw [this, List.length_append, List.length_singleton]; (clear this q2 q h3 h1 ps; (first | lia | omega))
        · rw [if_neg q2]; (clear q2 q h3 h1 ps; (first | lia | omega))
    (first | lia | omega)
theorem normS_len (l : List Nat) : (normS l).length ≤ l.length + 3 := by
  have h1 := split_len (normS l)
  have h2 := split_len l
  have h3 := foldH_weight (splitS 47 l) (0, [])
  have h3 : 3 * (foldH (splitS 47 l)).1 + sumL (foldH (splitS 47 l)).2 + (foldH (splitS 47 l)).2.length ≤ sumL (splitS 47 l) + (splitS 47 l).length := by simpa [foldH, sumL] using h3
  rw [split_norm] at h1
  generalize foldH (splitS 47 l) = st at h1 h3
  obtain ⟨d, cs⟩ := st
  dsimp only at h1 h3
  have e1 : sumL (List.replicate d dd) = 2 * d := by unfold sumL; rw [List.map_replicate, List.sum_replicate_nat]; show d * 2 = _; (first | lia | omega)
  unfold orL at h1
  by_cases q : leadN l = 0
  · rw [if_pos q] at h1
    by_cases q2 : List.replicate d dd ++ cs = []
    · rw [if_pos q2] at h1
      simp [sumL] at h1; (first | lia | omega)
    · rw [if_neg q2, sumL_append, e1, List.length_append, List.length_replicate] at h1; (clear q2 q e1; (first | lia | omega))
  · rw [if_neg q] at h1
    obtain ⟨r, hr, hr2⟩ : ∃ r : Nat, r = (if leadN l = 2 then 2 else 1) ∧ r ≤ 2 := ⟨_, rfl, by split <;> decide⟩
    rw [← hr] at h1
    have e2 : sumL (List.replicate r ([] : List Nat)) = 0 := by unfold sumL; rw [List.map_replicate, List.sum_replicate_nat]; rfl
    rw [sumL_append, e2, List.length_append, List.length_replicate] at h1
    by_cases q2 : cs = []
    · rw [if_pos q2] at h1; simp [sumL] at h1; (first | lia | omega)
    · rw [if_neg q2] at h1; (clear q2 e2 q e1 hr; (first | lia | omega))
theorem dir_base_len (l : List Nat) : (dirS l).length + (baseS l).length ≤ l.length := by
  have h1 : (dirS l).length ≤ cut 47 l := by
    have hc := cut_le 47 l
    have hr := rstrip_len (l.take (cut 47 l))
    unfold dirS
    split
    · rw [List.length_take] at hr; (clear hc; (first | lia | omega))
    · rw [List.length_take]; (clear hr hc; (first | lia | omega))
  have hc := cut_le 47 l
  unfold baseS
  rw [List.length_drop]; (first | lia | omega)
end PL

end
section
open PySem PySem.Calls PyProof.Rows PySem.SeqAt
set_option Elab.async false
set_option linter.unusedVariables false
set_option maxHeartbeats 4000000
namespace PL
section
variable {C : Cx} {X : XP} {σ : St} {Q : V → St → Prop}
/-- a text among the texts of a tuple -/
theorem Cmp.notInTup {o : Bool} {ps : List (List Nat)} {m : List Nat} (h : Q (.bool (!decide (m ∈ ps))) σ) : Cmp C .NotIn (.txt o m) (.tup (ps.map (.txt o))) Q X σ := by
  intro z₀ x y rx ry zs z s hz hR
  obtain ⟨a, items, n, rfl, pa, q⟩ := rep_tupO (ry.mono hz) hR
  have rx := rx.mono hz
  obtain ⟨h1, h2⟩ := txtsAny rx q
  exact notIn_tupleAt (isT o m) (items := items.toArray) ⟨_, pa, rfl, n, rfl⟩ (fun y hy => isT_eq rx (h1 y (List.mem_toArray.mp hy))) (PVal.same hR (.bool _) (by rw [List.any_toArray, h2]; exact h))
/-- the greatest number of a list -/
theorem call_max_ints {v : V} {ns : List Int} (hh : C.A.handled = none) (k : IsL σ v (ns.map .int)) (h0 : 0 < ns.length) (h : ∀ m ∈ ns, (∀ n ∈ ns, n ≤ m) → Q (.int m) σ) : CallV C (.builtin "max") [v] Q X σ := by
  refine CallV.toks fun z₀ zs z s xs hz hR r => ?_
  have rq := RepL.inv r; clear r; obtain ⟨_, _, rfl, r, t⟩ := rq
  cases t.inv0; clear t
  obtain ⟨a, items, rfl, p, q⟩ := k.at r (Z.le_refl _) hR
  obtain ⟨ps, e1, e2⟩ := q.intItems
  have e3 : items.toArray = intItems ps.toArray := by rw [e1]; simp [PySem.intItems]
  rw [e3] at p
  have hl : ps.length = ns.length := by rw [← e2, List.length_map]
  refine max_intList hh p (by simp; omega) fun w h' tk hw k => ?_
  obtain ⟨t, rfl⟩ := intItems_at hw
  obtain ⟨g1, g2⟩ := argBest_gt (numAt ps.toArray) (ps.toArray.size - 1)
  have hg : ∀ j : Nat, j < ns.length → ∃ n, ns[j]? = some n ∧ numAt ps.toArray j = n := by
    intro j hj
    have hj' : j < ps.length := by omega
    refine ⟨ns[j], List.getElem?_eq_getElem hj, ?_⟩
    rw [numAt_eq]
    simp [e2, hj]
  have hsz : ps.toArray.size = ns.length := by simpa using hl
  rw [hsz] at g1 g2 ⊢
  obtain ⟨m, hm, em⟩ := hg _ (Nat.lt_of_le_of_lt g1 (by omega))
  rw [em] at g2 ⊢
  refine CallV.grown hR k (.int _ _) (h m (List.mem_of_getElem? hm) fun n hn => ?_)
  obtain ⟨j, hj⟩ := List.mem_iff_getElem?.mp hn
  have hjl := (List.getElem?_eq_some_iff.mp hj).1
  obtain ⟨n', hn', en⟩ := hg j hjl
  rw [hj] at hn'
  cases hn'
  rw [← en]
  exact g2 j (by omega)
/-- a place of a list as a target -/
theorem TAs.sub {o i : Expr} {p : Pos} {v : V} {Q : St → Prop} (h : TE C o (fun ov σ1 => TE C i (fun iv σ2 => Put C ov iv v Q X σ2) X σ1) X σ) : TAs C (.Subscript o i p) v Q X σ := by
  intro z₀ x rx zs z s hz hR
  refine PySem.W.kas_sub ?_
  refine wpAny_mono (h z zs z s (Z.le_refl _) hR) ?_ fun _ _ x => x
  rintro ov s2 ⟨z2, σ2, l2, R2, vo, ro, h2⟩
  refine wpAny_mono (h2 z2 zs z2 s2 (Z.le_refl _) R2) ?_ fun _ _ x => PX.le l2 x
  rintro iv s3 ⟨z3, σ3, l3, R3, vi, ri, h3⟩
  refine wpAny_mono (h3 z3 ov iv x (ro.mono l3) ri (rx.mono (Z.le_trans hz (Z.le_trans l2 l3))) zs z3 s3 (Z.le_refl _) R3) ?_ fun _ _ x => PX.le (Z.le_trans l2 l3) x
  rintro ⟨⟩ s4 ⟨z4, σ4, l4, R4, q⟩
  exact ⟨z4, σ4, Z.le_trans (Z.le_trans l2 l3) l4, R4, q⟩
theorem swaps_sub {env : Env} {ts es : List Expr} {k k2 : Nat} {p1 p2 : Pos} {a b : Expr} {px : Pos} {r : List Expr} (ht : ts = .Subscript a b px :: r) :
    swappedStores [.Tuple ts k p1] (.Tuple es k2 p2) env = Pure.pure none := by
  subst ht
  unfold swappedStores
  dsimp only
  split
  · rfl
  · split
    · rfl
    · refine if_pos ?_
      rw [Bool.or_eq_true]
      left
      have : ∀ (f : Expr → Option Str) (l : List Expr), (l.filterMap f).length ≤ l.length := fun f l => List.length_filterMap_le f l
      rw [bne_iff_ne, List.filterMap_cons_none rfl]
      exact Nat.ne_of_lt (Nat.lt_succ_of_le (this _ _))
end
end PL

end
open PySem PySem.Calls PyProof.Rows
set_option maxRecDepth 100000
set_option maxHeartbeats 4000000
local macro_rules
  | `(tactic| walk_at $s:str) => do
    let d := ("
pl lk=S
pl comp=r CompOK.mk d d d d d
pl kept=r Kept.biA|r Kept.tyA
pl w=R
pl le=? leA h h;r leAnd s _
pl fd=! Find.hit|! Find.hd|A Find.miss;w fd|A Find.tl;w fd
pl lo=r Lo.of k
pl lf=r lf_of k k
pl in=! BI.len|! BI.ord|! BI.chr|! BI.abs|! BI.min|! BI.max|! BI.sum|! BI.isinstance|! BI.issubclass|! BI.divmod|! BI.range|! BI.list|! BI.tuple|! BI.bytes|! BI.str|! BI.bool|! BI.type|! BI.bytearray
pl st=r In.stL a k|r In.stC a a k
pl sc=r Str1|r Str2|r Str3|r Str4|r Str5
pl bc=r Byt1|r Byt2|r Byt3|r Byt4
pl nm=r TE.nameL a k lk _|r TE.nameC a k lk _|r TE.nameB a k a d in _
pl cb=r TE.callB a k a d in kept _
pl TE=? TE h n h h h;w nm|? TE h q h h h;r TE.cmp _|? TE h c h h h;w cb|! TE.const_int _|! TE.binop _|! TE.subsl _|! TE.sub _|! TE.str sc _|! TE.byt bc _|! TE.const_bool _|! TE.const_none _|! TE.unop _|! TE.ifexp _|! TE.tuple _|! TE.listF _
pl TS=! TS.assignR _ _ _;w st;x|A TS.augR;w st;w lk|? TS h g h h h;r TS.augSub _|! TS.exprR _ _;x|! TS.ret _|! TS.if_ _|! TS.cont _|! TS.brk _|! TS.pass _
pl op=! Bin.add_int _|! Bin.sub_int _|! Inp.add_int _|! Inp.sub_int _|! Un.neg_int _|! Cmp.lt_int _|! Cmp.gt_int _|! Cmp.le_int _|! Cmp.ge_int _|! Cmp.eq_int _|! Cmp.ne_int _|! Cmp.eq_bool _|! Cmp.ne_bool _|! Cmp.eq_txt _|! Cmp.ne_txt _|! Tru.bool _|! Tru.int _|! Tru.none _
pl e=? TE h h h h h;w TE|? TS h h h h h;w TS|! TArgs.consR _ _;x|? TB h h h h h;r TB.cmp _|! TArgs.nil _|! TOpt.none _|! TOpt.some _|! TB.not _|! TB.boolop _|! TBall.and_nil _|! TBall.or_nil _|! TBall.and_cons _|! TBall.or_cons _|! TSs.nil _|! TSs.cons _|? TB h h h h h;r TB.val _|w op|@".splitOn "\n").find? (·.startsWith (s.getString ++ "="))
    let some d := d | Lean.Macro.throwUnsupported
    let mut r ← `(tactic| fail)
    for a in ((d.splitOn "=").getD 1 "").splitOn "|" |>.reverse do
      let mut b ← `(tactic| skip)
      for m in a.splitOn ";" do
        let l := m.splitOn " "
        let as ← (l.drop 2).toArray.mapM fun a => match a with
          | "_" => `(?_)
          | "h" => `(_)
          | "a" => `(by assumption)
          | "k" => `(by kernel_rfl!)
          | "d" => `(by decide +kernel)
          | "s" => `(by simp)
          | "n" => `(.Name _ _)
          | "q" => `(.Compare _ _ _ _)
          | "c" => `(.Call (.Name _ _) _ _ _)
          | "g" => `(.AugAssign _ _ _ _)
          | a => `(by walk_at $(Lean.Syntax.mkStrLit ("pl " ++ a)))
        let f : Lean.Term := ⟨Lean.Syntax.mkApp (Lean.mkIdent (`PL ++ (l.getD 1 "").toName)) as⟩
        let c ← match l.headD "" with
          | "r" => `(tactic| refine $f)
          | "!" => `(tactic| with_reducible refine $f)
          | "?" => `(tactic| with_reducible show $f)
          | "A" => `(tactic| with_reducible apply $f)
          | "w" => `(tactic| walk_at $(Lean.Syntax.mkStrLit ("pl " ++ l.getD 1 "")))
          | "x" => `(tactic| exact rfl)
          | "S" => `(tactic| (show List.lookup (?x : PySem.Str) ?L = some ?v; haveI : PL.Find ?L ?x ?v := (by walk_at "pl fd"); kernel_rfl!))
          | "R" => `(tactic| repeat (first | walk_at "pl e" | walk_at "pl le"))
          | _ => `(tactic| refine ⟨_, rfl, ?_⟩)
        b ← `(tactic| ($b:tactic; $c:tactic))
      r ← `(tactic| first | $b:tactic | $r:tactic)
    return r

section
open PySem PySem.Calls PyProof.Rows
set_option Elab.async false
set_option linter.unusedVariables false
set_option linter.unusedSimpArgs false
set_option maxRecDepth 100000
set_option maxHeartbeats 4000000

namespace PL
noncomputable abbrev P12 := PySem.Challenge.pw_km0084_12
theorem pars10 : parsAt P12 10 = [("path" : Str)] := by kernel_rfl
theorem pars15 : parsAt P12 15 = [("path" : Str)] := by kernel_rfl
theorem pars16 : parsAt P12 16 = [("a" : Str)] := by kernel_rfl
theorem star16 : starAt P12 16 = ("p" : Str) := by kernel_rfl
theorem pars17 : parsAt P12 17 = [("p" : Str)] := by kernel_rfl
theorem pars12 : parsAt P12 12 = [("p" : Str), "sep", "altsep", "extsep"] := by kernel_rfl
theorem pars18 : parsAt P12 18 = [("p" : Str)] := by kernel_rfl
theorem pars20 : parsAt P12 20 = [("p" : Str)] := by kernel_rfl
theorem pars21 : parsAt P12 21 = [("p" : Str)] := by kernel_rfl
theorem pars22 : parsAt P12 22 = [("p" : Str)] := by kernel_rfl
theorem pars23 : parsAt P12 23 = [("path" : Str)] := by kernel_rfl
theorem pars24 : parsAt P12 24 = [("paths" : Str)] := by kernel_rfl
theorem fspath_ok {g : Gd} {a : Addr} (hf : Fn g P12 10 a) (hb : Free g BI) {o : Bool} {l : List Nat} {Q : V → Led → Prop} {X : XL} {H : Led} (h : Q (.txt o l) H) : CallT g (0 + 1) (.ref a) [.txt o l] Q X H := by
  obtain ⟨hm, fd, F⟩ := hf
  refine CallT.def_ F (by rw [pars10]; rfl) fun C hC hro => ?_
  rw [pars10]
  refine TSs.le start1 ?_
  refine TSs.cons ?_
  repeat (walk_at "pl e")
  refine call_type ?_
  repeat (walk_at "pl e")
  refine ⟨by simp, ?_⟩
  repeat (walk_at "pl e")
  refine call_issubclass_pair ?_
  repeat (walk_at "pl e")
  refine ite_t rfl ?_
  repeat (walk_at "pl e")
  exact h
theorem get_sep_ok {g : Gd} {a : Addr} (hf : Fn g P12 15 a) (hb : Free g BI) {o : Bool} {l : List Nat} {Q : V → Led → Prop} {X : XL} {H : Led} (h : Q (.txt o [47]) H) : CallT g (0 + 1) (.ref a) [.txt o l] Q X H := by
  obtain ⟨hm, fd, F⟩ := hf
  refine CallT.def_ F (by rw [pars15]; rfl) fun C hC hro => ?_
  rw [pars15]
  refine TSs.le start1 ?_
  refine TSs.cons ?_
  repeat (walk_at "pl e")
  refine call_isinstance_txt (p := true) ?_
  walk_at "pl e"
  cases o
  · refine ite_f (by decide) ?_
    repeat (walk_at "pl e")
    exact h
  · refine ite_t (by decide) ?_
    repeat (walk_at "pl e")
    exact h
theorem join_ok {g : Gd} {a b c : Addr} (hf : FnS g P12 16 a) (hf9 : Fn g P12 10 b) (hf11 : Fn g P12 15 c) (hb : Free g BI) {o : Bool} {l : List Nat} {bs : List (List Nat)} (hn : l.length + sumL bs + bs.length ≤ 1000000) {Q : V → Led → Prop} {X : XL} {H : Led}
    (h : Q (.txt o (joinP l bs)) H) : CallT g (1 + 1) (.ref a) (.txt o l :: bs.map (.txt o)) Q X H := by
  obtain ⟨hm, fd, F⟩ := hf
  refine CallT.defS F (by rw [pars16]; simp) (by rw [List.length_cons, List.length_map]; (clear F fd hm h H X Q o hb hf11 hf9 c b a g; (first | lia | omega))) fun C hC hro => ?_
  rw [pars16, star16]
  rw [show (.txt o l :: bs.map (.txt o) : List V).drop [("a" : Str)].length = bs.map (.txt o) from rfl]
  refine TSs.le (startS (by decide +kernel)) ?_
  refine TSs.cons ?_
  refine TS.exprR rfl ?_
  refine TE.const_str ?_
  refine TSs.cons ?_
  repeat (walk_at "pl e")
  refine TE.callG hC hf9 (by kernel_rfl) (by kernel_rfl) ?_
  repeat (walk_at "pl e")
  refine CallV.fnI hC (fspath_ok hf9 hb ?_) (by decide)
  repeat (walk_at "pl e")
  refine TE.callG hC hf11 (by kernel_rfl) (by kernel_rfl) ?_
  repeat (walk_at "pl e")
  refine CallV.fnI hC (get_sep_ok hf11 hb ?_) (by decide)
  repeat (walk_at "pl e")
  refine TS.tryOK ?_
  refine TSs.cons ?_
  refine TS.for_ hC.calm ?_
  repeat (walk_at "pl e")
  refine ⟨_, _, Walk.tup, fun i σ => Le ⟨[("sep", .txt o [47]), ("path", .txt o (joinP l (bs.take i)))], H⟩ σ, ⟨by show Lo [("sep", .txt o [47]), ("path", .txt o l)] _; walk_at "pl lo", List.Sublist.refl _⟩, fun _ _ _ => trivial, ?_, ?_⟩
  · intro i u σ hu hle
    rw [List.getElem?_map] at hu
    obtain ⟨x, hxi, rfl⟩ : ∃ x, bs[i]? = some x ∧ u = .txt o x := by
      cases e : bs[i]? with
      | none => rw [e] at hu; cases hu
      | some c => rw [e] at hu; cases hu; exact ⟨c, rfl, rfl⟩
    refine TAs.name (by walk_at "pl st") ?_
    refine TSs.le hle.both ?_
    have nx := joinP_take (a := l) hxi
    have hlen := joinP_len (bs.take i) l
    have h2 := sumL_take bs i
    have h3 : (bs.take i).length ≤ bs.length := List.length_take_le' i bs
    have h4 := sumL_mem (List.mem_of_getElem? hxi)
    generalize joinP l (bs.take i) = w at nx hlen ⊢
    refine TSs.cons ?_
    repeat (walk_at "pl e")
    refine TE.callG hC hf9 (by kernel_rfl) (by kernel_rfl) ?_
    repeat (walk_at "pl e")
    refine CallV.fnI hC (fspath_ok hf9 hb ?_) (by decide)
    have fin : ∀ {v : List Nat} {σ' : St}, jn1 w x = v → Le ⟨[("sep", .txt o [47]), ("path", .txt o v)], H⟩ σ' → Le ⟨[("sep", .txt o [47]), ("path", .txt o (joinP l (bs.take (i + 1))))], H⟩ σ' := fun e q => by rw [nx, e]; exact q
    unfold jn1 at fin
    refine TSs.cons ?_
    refine TS.if_ ?_
    refine TB.cut (P := fun t σ' => t = decide (headIs 47 x = true ∨ w = []) ∧ Le ⟨[("sep", .txt o [47]), ("path", .txt o w), ("b", .txt o x)], H⟩ σ') ?_ ?_
    · repeat (walk_at "pl e")
      refine TE.startswith o ?_
      repeat (walk_at "pl e")
      refine ite_b (fun c1 => ?_) (fun c1 => ?_)
      · exact ⟨by simp [c1], by walk_at "pl lo", List.Sublist.refl _⟩
      · repeat (walk_at "pl e")
        refine Tru.txt (by (clear c1 fin nx h4 hu hxi hle σ hro hC C F fd hm h H X Q o hb hf11 hf9 c b a g x; (first | lia | omega))) ?_
        by_cases c2 : w = []
        · refine ite_t (by simp [c2]) ?_
          exact ⟨by simp [c2], by walk_at "pl lo", List.Sublist.refl _⟩
        · refine ite_f (by simp [c2]) ?_
          repeat (walk_at "pl e")
          exact ⟨by simp [c1, c2], by walk_at "pl lo", List.Sublist.refl _⟩
    rintro _ σ' ⟨rfl, hle'⟩
    refine ite_b (fun c1 => ?_) (fun c1 => ?_)
    · have c1 : headIs 47 x = true ∨ w = [] := of_decide_eq_true c1
      refine TSs.le hle' ?_
      repeat (walk_at "pl e")
      exact fin (if_pos c1) ⟨by walk_at "pl lo", List.Sublist.refl _⟩
    · have c1 : ¬ (headIs 47 x = true ∨ w = []) := fun q => c1 (decide_eq_true q)
      refine TSs.le hle' ?_
      refine TSs.cons ?_
      refine TS.if_ ?_
      refine TB.val ?_
      refine TE.endswith o ?_
      repeat (walk_at "pl e")
      refine ite_b (fun c2 => ?_) (fun c2 => ?_)
      · repeat (walk_at "pl e")
        refine Inp.add_txt (by (first | lia | omega)) ?_
        repeat (walk_at "pl e")
        exact fin (by rw [if_neg c1, if_pos c2]) ⟨by walk_at "pl lo", List.Sublist.refl _⟩
      · repeat (walk_at "pl e")
        refine Bin.add_txt (by rw [List.length_singleton]; (first | lia | omega)) ?_
        refine Inp.add_txt (by rw [List.length_append, List.length_singleton]; (first | lia | omega)) ?_
        repeat (walk_at "pl e")
        exact fin (by rw [if_neg c1, if_neg c2]) ⟨by walk_at "pl lo", List.Sublist.refl _⟩
  · intro σ hle
    rw [List.length_map, List.take_of_length_le (Nat.le_refl _)] at hle
    refine TSs.nil ?_
    refine TSs.nil ?_
    refine TSs.le hle ?_
    repeat (walk_at "pl e")
    exact h
theorem split_ok {g : Gd} {a b c : Addr} (hf : Fn g P12 17 a) (hf9 : Fn g P12 10 b) (hf11 : Fn g P12 15 c) (hb : Free g BI) {o : Bool} {l : List Nat} (hn : l.length ≤ 1000000) {Q : V → Led → Prop} {X : XL} {H : Led}
    (h : Q (.tup [.txt o (dirS l), .txt o (baseS l)]) H) : CallT g (1 + 1) (.ref a) [.txt o l] Q X H := by
  obtain ⟨hm, fd, F⟩ := hf
  refine CallT.def_ F (by rw [pars17]; rfl) fun C hC hro => ?_
  rw [pars17]
  refine TSs.le start1 ?_
  refine TSs.cons ?_
  refine TS.exprR rfl ?_
  refine TE.const_str ?_
  refine TSs.cons ?_
  repeat (walk_at "pl e")
  refine TE.callG hC hf9 (by kernel_rfl) (by kernel_rfl) ?_
  repeat (walk_at "pl e")
  refine CallV.fnI hC (fspath_ok hf9 hb ?_) (by decide)
  repeat (walk_at "pl e")
  refine TE.callG hC hf11 (by kernel_rfl) (by kernel_rfl) ?_
  repeat (walk_at "pl e")
  refine CallV.fnI hC (get_sep_ok hf11 hb ?_) (by decide)
  repeat (walk_at "pl e")
  refine TE.rfind o ?_
  repeat (walk_at "pl e")
  rw [Int.sub_add_cancel]
  refine TS.swap2 hC (by kernel_rfl) (by kernel_rfl) (by decide +kernel) ?_
  refine TArgs.consR rfl ?_
  repeat (walk_at "pl e")
  refine Slc.txt (by (clear hro hC C F fd hm h H X Q o hb hf11 hf9 c b a g; (first | lia | omega))) ?_
  rw [sl_to]
  refine TArgs.consR rfl ?_
  repeat (walk_at "pl e")
  refine Slc.txt (by (clear hro hC C F fd hm h H X Q o hb hf11 hf9 c b a g; (first | lia | omega))) ?_
  rw [sl_from]
  refine TArgs.nil ⟨by simp, _, _, rfl, ?_⟩
  have hlen : (l.take (cut 47 l)).length ≤ l.length := by rw [List.length_take]; (clear hro hC C F fd hm h H X Q hn o hb hf11 hf9 c b a g; (first | lia | omega))
  unfold dirS baseS at h
  generalize l.take (cut 47 l) = hd at h hlen
  refine TSs.le (σ' := ⟨[("sep", .txt o [47]), ("head", .txt o hd), ("tail", .txt o (l.drop (cut 47 l)))], H⟩) ⟨by walk_at "pl lo", List.Sublist.refl _⟩ ?_
  refine TSs.cons ?_
  repeat (walk_at "pl e")
  refine Tru.txt (by (clear h hro hC C F fd hm H X Q o hb hf11 hf9 c b a g; (first | lia | omega))) ?_
  refine ite_b (fun c1 => ?_) (fun c1 => ?_)
  · repeat (walk_at "pl e")
    refine call_len_txt (by (clear c1 h hro hC C F fd hm H X Q o hb hf11 hf9 c b a g; (first | lia | omega))) ?_
    refine Bin.mul_txt (by (clear c1 hlen h hro hC C F fd hm H X Q hn o hb hf11 hf9 c b a g l; (first | lia | omega))) (by (clear c1 h hro hC C F fd hm H X Q o hb hf11 hf9 c b a g; (first | lia | omega))) ?_
    repeat (walk_at "pl e")
    refine ite_b (fun c2 => ?_) (fun c2 => ?_)
    · repeat (walk_at "pl e")
      refine ite_t rfl ?_
      repeat (walk_at "pl e")
      refine TE.rstrip o ?_
      repeat (walk_at "pl e")
      refine ⟨by (clear c2 c1 h hro hC C F fd hm H X Q o hb hf11 hf9 c b a g; (first | lia | omega)), ?_⟩
      repeat (walk_at "pl e")
      rw [if_pos] at h
      · exact ⟨by simp, h⟩
      · exact ⟨by simpa using c1, by simpa using c2⟩
    · repeat (walk_at "pl e")
      refine ite_f (by decide) ?_
      repeat (walk_at "pl e")
      rw [if_neg] at h
      · exact ⟨by simp, h⟩
      · exact fun ⟨_, e⟩ => c2 (by simpa using e)
  · repeat (walk_at "pl e")
    refine ite_f (by decide) ?_
    repeat (walk_at "pl e")
    rw [if_neg] at h
    · exact ⟨by simp, h⟩
    · exact fun ⟨e, _⟩ => c1 (by simpa using e)
theorem splitext1_ok {g : Gd} {a : Addr} (hf : Fn g P12 12 a) (hb : Free g BI) {o : Bool} {l : List Nat} (hn : l.length ≤ 1000000) {Q : V → Led → Prop} {X : XL} {H : Led}
    (h : Q (.tup [.txt o (l.take (extN l)), .txt o (l.drop (extN l))]) H) : CallT g (0 + 1) (.ref a) [.txt o l, .txt o [47], .none, .txt o [46]] Q X H := by
  obtain ⟨hm, fd, F⟩ := hf
  refine CallT.def_ F (by rw [pars12]; rfl) fun C hC hro => ?_
  rw [pars12]
  refine TSs.le (start4 (by decide) (by decide) (by decide) (by decide) (by decide) (by decide)) ?_
  refine TSs.cons ?_
  refine TS.exprR rfl ?_
  refine TE.const_str ?_
  refine TSs.cons ?_
  repeat (walk_at "pl e")
  refine TE.rfind o ?_
  repeat (walk_at "pl e")
  refine ite_f (by decide) ?_
  refine TSs.nil ?_
  refine TSs.cons ?_
  refine TS.cut (P := fun f σ' => f = .next ∧ Le ⟨[("p", .txt o l), ("extsep", .txt o [46]), ("sepIndex", .int ((cut 47 l : Int) - 1)), ("dotIndex", .int ((cut 46 l : Int) - 1))], H⟩ σ') ?_ ?_
  · refine TS.assign (by walk_at "pl st") ?_
    refine TE.rfind o ?_
    repeat (walk_at "pl e")
    exact ⟨rfl, by walk_at "pl lo", List.Sublist.refl _⟩
  rintro _ σ' ⟨rfl, hle⟩
  refine TSs.le hle ?_
  clear hle σ'
  have hdn := dot_name l
  have hc46 := cut_le 46 l
  have hbg := base_get l
  refine TSs.cons ?_
  refine TS.cut (P := fun fl σ' => fl = .ret (.tup [.txt o (l.take (extN l)), .txt o (l.drop (extN l))]) ∧ σ'.H = H ∨ fl = .next ∧ extN l = l.length ∧ Le ⟨[("p", .txt o l)], H⟩ σ') ?_ ?_
  · refine TS.if_ ?_
    repeat (walk_at "pl e")
    refine ite_b (fun c1 => ?_) (fun c1 => ?_)
    rotate_left
    · have c1 : ¬ cut 47 l < cut 46 l := fun q => c1 (decide_eq_true (by (clear c1 hbg hc46 hdn hro hC C F fd hm h H X Q hn o hb a g; (first | lia | omega))))
      refine TSs.nil (.inr ⟨rfl, ?_, by walk_at "pl lo", List.Sublist.refl _⟩)
      have : cut 46 (baseS l) = 0 := by have := hdn.1; (clear hbg hc46 hdn hro hC C F fd hm h H X Q hn o hb a g; (first | lia | omega))
      unfold extN
      have e : atN (baseS l) = (baseS l).length := by unfold atN; rw [this]; exact if_pos rfl
      rw [e]
      have := cut_le 47 l
      unfold baseS; rw [List.length_drop]; (first | lia | omega)
    have c1 : cut 47 l < cut 46 l := by have := of_decide_eq_true c1; (clear c1 hbg hc46 hdn hro hC C F fd hm h H X Q hn o hb a g; (first | lia | omega))
    have hd0 := hdn.1.mp c1
    have hd1 := hdn.2 hd0
    generalize hs : cut 47 l = s at *
    generalize hd : cut 46 (baseS l) = d at *
    generalize hcd : cut 46 l = cd at *
    refine TSs.cons ?_
    refine TS.assign (by walk_at "pl st") ?_
    repeat (walk_at "pl e")
    refine TS.while_ (fun m σ => ∃ j : Nat, m = d - 1 - j ∧ j ≤ d - 1 ∧ (∀ i, i < j → (baseS l)[i]? = some 46) ∧ Le ⟨[("p", .txt o l), ("extsep", .txt o [46]), ("dotIndex", .int ((cd : Int) - 1)), ("filenameIndex", .int ((s + j : Nat) : Int))], H⟩ σ) (d - 1)
      ⟨0, rfl, Nat.zero_le _, fun i hi => absurd hi (Nat.not_lt_zero i), by rw [show (s : Int) - 1 + 1 = ((s + 0 : Nat) : Int) from by (first | lia | omega)]; walk_at "pl lo", List.Sublist.refl _⟩ ?_
    rintro m σ ⟨j, rfl, hj, hall, hle⟩
    refine TB.le hle ?_
    clear hle
    repeat (walk_at "pl e")
    refine ite_b (fun c2 => ?_) (fun c2 => ?_)
    · have c2 : j < d - 1 := by have := of_decide_eq_true c2; (first | lia | omega)
      refine TSs.cons ?_
      repeat (walk_at "pl e")
      refine Slc.txt (by (first | lia | omega)) ?_
      rw [sl_12 l _ _ (s + j) rfl (by (first | lia | omega))]
      repeat (walk_at "pl e")
      have hget : (l.drop (s + j)).take 1 = [46] ↔ (baseS l)[j]? = some 46 := by
        have e : l[s + j]? = (l.drop (s + j))[0]? := by rw [List.getElem?_drop, Nat.add_zero]
        rw [hbg j, e]
        cases (l.drop (s + j)) with
        | nil => simp
        | cons x r => simp
      refine ite_b (fun c3 => ?_) (fun c3 => ?_)
      · have c3 : ¬ (l.drop (s + j)).take 1 = [46] := by simpa using c3
        have hno : (baseS l)[j]? ≠ some 46 := fun q => c3 (hget.mpr q)
        have he : extN l = cd - 1 := by
          unfold extN atN
          rw [hs, hd, if_neg]
          · (first | lia | omega)
          · rw [take_not c2 (by unfold baseS; rw [List.length_drop, hs]; (first | lia | omega)) hno]; decide
        repeat (walk_at "pl e")
        refine Slc.txt (by (first | lia | omega)) ?_
        rw [sl_toL l _ (cd - 1) (by (first | lia | omega))]
        repeat (walk_at "pl e")
        refine Slc.txt (by (first | lia | omega)) ?_
        rw [sl_fromL l _ (cd - 1) (by (first | lia | omega)), he]
        repeat (walk_at "pl e")
        exact ⟨by simp, .inl ⟨rfl, rfl⟩⟩
      · have c3 : (l.drop (s + j)).take 1 = [46] := by simpa using c3
        refine TSs.nil ?_
        repeat (walk_at "pl e")
        refine ⟨d - 1 - (j + 1), by (first | lia | omega), j + 1, rfl, c2, fun i hi => ?_, by rw [show ((s + j : Nat) : Int) + 1 = ((s + (j + 1) : Nat) : Int) from by (first | lia | omega)]; walk_at "pl lo", List.Sublist.refl _⟩
        rcases Nat.lt_or_ge i j with q | q
        · exact hall i q
        · have : i = j := by (first | lia | omega)
          subst this; exact hget.mp c3
    · have c2 : ¬ j < d - 1 := fun q => c2 (decide_eq_true (by (first | lia | omega)))
      have : j = d - 1 := by (first | lia | omega)
      subst this
      refine TSs.nil ?_
      refine TSs.nil (.inr ⟨rfl, ?_, by walk_at "pl lo", List.Sublist.refl _⟩)
      unfold extN atN
      rw [hs, hd, if_pos (take_all hall)]
      have := cut_le 47 l
      unfold baseS; rw [List.length_drop, hs]; (first | lia | omega)
  rintro fl σ' (⟨rfl, hH⟩ | ⟨rfl, he, hle⟩)
  · show Q _ σ'.H
    rw [hH]; exact h
  · refine TSs.le hle ?_
    rw [he, List.take_length, List.drop_length] at h
    repeat (walk_at "pl e")
    refine Slc.txt (by (clear hle σ' hbg hc46 hdn hro hC C F fd hm h H X Q o hb a g he; (first | lia | omega))) ?_
    rw [sl_toL l 0 0 rfl, List.take_zero]
    repeat (walk_at "pl e")
    exact ⟨by simp, h⟩
theorem splitext_ok {g : Gd} {a b c : Addr} (hf : Fn g P12 18 a) (hf9 : Fn g P12 10 b) (hf1 : Fn g P12 12 c) (hb : Free g BI) {o : Bool} {l : List Nat} (hn : l.length ≤ 1000000) {Q : V → Led → Prop} {X : XL} {H : Led}
    (h : Q (.tup [.txt o (l.take (extN l)), .txt o (l.drop (extN l))]) H) : CallT g (1 + 1) (.ref a) [.txt o l] Q X H := by
  obtain ⟨hm, fd, F⟩ := hf
  refine CallT.def_ F (by rw [pars18]; rfl) fun C hC hro => ?_
  rw [pars18]
  refine TSs.le start1 ?_
  refine TSs.cons ?_
  repeat (walk_at "pl e")
  refine TE.callG hC hf9 (by kernel_rfl) (by kernel_rfl) ?_
  repeat (walk_at "pl e")
  refine CallV.fnI hC (fspath_ok hf9 hb ?_) (by decide)
  refine TSs.cons ?_
  refine TS.cut (P := fun f σ' => f = .next ∧ Le ⟨[("p", .txt o l), ("sep", .txt o [47]), ("extsep", .txt o [46])], H⟩ σ') ?_ ?_
  · repeat (walk_at "pl e")
    refine call_isinstance_txt (p := true) ?_
    walk_at "pl e"
    cases o
    · refine ite_f (by decide) ?_
      repeat (walk_at "pl e")
      exact ⟨rfl, by walk_at "pl lo", List.Sublist.refl _⟩
    · refine ite_t (by decide) ?_
      repeat (walk_at "pl e")
      exact ⟨rfl, by walk_at "pl lo", List.Sublist.refl _⟩
  rintro _ σ' ⟨rfl, hle⟩
  refine TSs.le hle ?_
  clear hle σ'
  repeat (walk_at "pl e")
  refine TE.callG hC hf1 (by kernel_rfl) (by kernel_rfl) ?_
  repeat (walk_at "pl e")
  refine CallV.fnI hC (splitext1_ok hf1 hb hn ?_) (by decide)
  exact h
theorem splitroot_ok {g : Gd} {a b : Addr} (hf : Fn g P12 20 a) (hf9 : Fn g P12 10 b) (hb : Free g BI) {o : Bool} {l : List Nat} (hn : l.length ≤ 1000000) {Q : V → Led → Prop} {X : XL} {H : Led}
    (h : Q (.tup [.txt o [], .txt o (List.replicate (rootN l) 47), .txt o (l.drop (rootN l))]) H) : CallT g (1 + 1) (.ref a) [.txt o l] Q X H := by
  obtain ⟨hm, fd, F⟩ := hf
  refine CallT.def_ F (by rw [pars20]; rfl) fun C hC hro => ?_
  rw [pars20]
  refine TSs.le start1 ?_
  refine TSs.cons ?_
  refine TS.exprR rfl ?_
  refine TE.const_str ?_
  refine TSs.cons ?_
  repeat (walk_at "pl e")
  refine TE.callG hC hf9 (by kernel_rfl) (by kernel_rfl) ?_
  repeat (walk_at "pl e")
  refine CallV.fnI hC (fspath_ok hf9 hb ?_) (by decide)
  refine TSs.cons ?_
  refine TS.cut (P := fun f σ' => f = .next ∧ Le ⟨[("p", .txt o l), ("sep", .txt o [47]), ("empty", .txt o [])], H⟩ σ') ?_ ?_
  · repeat (walk_at "pl e")
    refine call_isinstance_txt (p := true) ?_
    walk_at "pl e"
    cases o
    · refine ite_f (by decide) ?_
      repeat (walk_at "pl e")
      exact ⟨rfl, by walk_at "pl lo", List.Sublist.refl _⟩
    · refine ite_t (by decide) ?_
      repeat (walk_at "pl e")
      exact ⟨rfl, by walk_at "pl lo", List.Sublist.refl _⟩
  rintro _ σ' ⟨rfl, hle⟩
  refine TSs.le hle ?_
  clear hle σ'
  have tk := rootN_take l
  unfold rootN at h tk
  refine TSs.cons ?_
  repeat (walk_at "pl e")
  refine Slc.txt (by (clear tk hro hC C F fd hm h H X Q o hb hf9 b a g; (first | lia | omega))) ?_
  rw [sl_toL l 1 1 rfl]
  repeat (walk_at "pl e")
  refine ite_b (fun c1 => ?_) (fun c1 => ?_)
  · repeat (walk_at "pl e")
    refine ⟨by simp, ?_⟩
    rw [if_neg (by simpa using c1)] at h
    exact h
  · have c1 : l.take 1 = [47] := by simpa using c1
    rw [if_pos c1] at h tk
    repeat (walk_at "pl e")
    refine Slc.txt (by (first | lia | omega)) ?_
    rw [sl_12 l 1 2 1 rfl rfl]
    repeat (walk_at "pl e")
    refine ite_b (fun c2 => ?_) (fun c2 => ?_)
    · repeat (walk_at "pl e")
      refine ite_t rfl ?_
      repeat (walk_at "pl e")
      refine Slc.txt (by (first | lia | omega)) ?_
      rw [sl_fromL l 1 1 rfl]
      repeat (walk_at "pl e")
      refine ⟨by simp, ?_⟩
      rw [if_neg (fun e => (by simpa using c2 : ¬ _) e.1)] at h
      exact h
    · have c2 : (l.drop 1).take 1 = [47] := by simpa using c2
      repeat (walk_at "pl e")
      refine Slc.txt (by (first | lia | omega)) ?_
      rw [sl_12 l 2 3 2 rfl rfl]
      repeat (walk_at "pl e")
      refine ite_b (fun c3 => ?_) (fun c3 => ?_)
      · repeat (walk_at "pl e")
        refine ite_t rfl ?_
        repeat (walk_at "pl e")
        refine Slc.txt (by (first | lia | omega)) ?_
        rw [sl_fromL l 1 1 rfl]
        repeat (walk_at "pl e")
        refine ⟨by simp, ?_⟩
        rw [if_neg (fun e => e.2 (by simpa using c3))] at h
        exact h
      · repeat (walk_at "pl e")
        refine ite_f (by decide) ?_
        repeat (walk_at "pl e")
        refine Slc.txt (by (first | lia | omega)) ?_
        rw [sl_toL l 2 2 rfl]
        repeat (walk_at "pl e")
        refine Slc.txt (by (first | lia | omega)) ?_
        rw [sl_fromL l 2 2 rfl]
        repeat (walk_at "pl e")
        refine ⟨by simp, ?_⟩
        have c3 : ¬ (l.drop 2).take 1 = [47] := by simpa using c3
        rw [if_pos ⟨c2, c3⟩] at h tk
        rw [tk]
        exact h
theorem basename_ok {g : Gd} {a b c : Addr} (hf : Fn g P12 21 a) (hf9 : Fn g P12 10 b) (hf11 : Fn g P12 15 c) (hb : Free g BI) {o : Bool} {l : List Nat} (hn : l.length ≤ 1000000) {Q : V → Led → Prop} {X : XL} {H : Led}
    (h : Q (.txt o (baseS l)) H) : CallT g (1 + 1) (.ref a) [.txt o l] Q X H := by
  obtain ⟨hm, fd, F⟩ := hf
  refine CallT.def_ F (by rw [pars21]; rfl) fun C hC hro => ?_
  rw [pars21]
  refine TSs.le start1 ?_
  refine TSs.cons ?_
  refine TS.exprR rfl ?_
  refine TE.const_str ?_
  refine TSs.cons ?_
  repeat (walk_at "pl e")
  refine TE.callG hC hf9 (by kernel_rfl) (by kernel_rfl) ?_
  repeat (walk_at "pl e")
  refine CallV.fnI hC (fspath_ok hf9 hb ?_) (by decide)
  repeat (walk_at "pl e")
  refine TE.callG hC hf11 (by kernel_rfl) (by kernel_rfl) ?_
  repeat (walk_at "pl e")
  refine CallV.fnI hC (get_sep_ok hf11 hb ?_) (by decide)
  repeat (walk_at "pl e")
  refine TE.rfind o ?_
  repeat (walk_at "pl e")
  refine Slc.txt (by (clear hro hC C F fd hm h H X Q o hb hf11 hf9 c b a g; (first | lia | omega))) ?_
  rw [Int.sub_add_cancel, sl_from]
  exact h
theorem dirname_ok {g : Gd} {a b c : Addr} (hf : Fn g P12 22 a) (hf9 : Fn g P12 10 b) (hf11 : Fn g P12 15 c) (hb : Free g BI) {o : Bool} {l : List Nat} (hn : l.length ≤ 1000000) {Q : V → Led → Prop} {X : XL} {H : Led}
    (h : Q (.txt o (dirS l)) H) : CallT g (1 + 1) (.ref a) [.txt o l] Q X H := by
  obtain ⟨hm, fd, F⟩ := hf
  refine CallT.def_ F (by rw [pars22]; rfl) fun C hC hro => ?_
  rw [pars22]
  refine TSs.le start1 ?_
  refine TSs.cons ?_
  refine TS.exprR rfl ?_
  refine TE.const_str ?_
  refine TSs.cons ?_
  repeat (walk_at "pl e")
  refine TE.callG hC hf9 (by kernel_rfl) (by kernel_rfl) ?_
  repeat (walk_at "pl e")
  refine CallV.fnI hC (fspath_ok hf9 hb ?_) (by decide)
  repeat (walk_at "pl e")
  refine TE.callG hC hf11 (by kernel_rfl) (by kernel_rfl) ?_
  repeat (walk_at "pl e")
  refine CallV.fnI hC (get_sep_ok hf11 hb ?_) (by decide)
  repeat (walk_at "pl e")
  refine TE.rfind o ?_
  repeat (walk_at "pl e")
  refine Slc.txt (by (clear hro hC C F fd hm h H X Q o hb hf11 hf9 c b a g; (first | lia | omega))) ?_
  rw [Int.sub_add_cancel, sl_to]
  have hlen : (l.take (cut 47 l)).length ≤ l.length := by rw [List.length_take]; (clear hro hC C F fd hm h H X Q hn o hb hf11 hf9 c b a g; (first | lia | omega))
  unfold dirS at h
  generalize l.take (cut 47 l) = hd at h hlen
  repeat (walk_at "pl e")
  refine Tru.txt (by (clear h hro hC C F fd hm H X Q o hb hf11 hf9 c b a g; (first | lia | omega))) ?_
  refine ite_b (fun c1 => ?_) (fun c1 => ?_)
  · repeat (walk_at "pl e")
    refine call_len_txt (by (clear c1 h hro hC C F fd hm H X Q o hb hf11 hf9 c b a g; (first | lia | omega))) ?_
    refine Bin.mul_txt (by (clear c1 hlen h hro hC C F fd hm H X Q hn o hb hf11 hf9 c b a g l; (first | lia | omega))) (by (clear c1 h hro hC C F fd hm H X Q o hb hf11 hf9 c b a g; (first | lia | omega))) ?_
    repeat (walk_at "pl e")
    refine ite_b (fun c2 => ?_) (fun c2 => ?_)
    · repeat (walk_at "pl e")
      refine ite_t rfl ?_
      repeat (walk_at "pl e")
      refine TE.rstrip o ?_
      repeat (walk_at "pl e")
      refine ⟨by (clear c2 c1 h hro hC C F fd hm H X Q o hb hf11 hf9 c b a g; (first | lia | omega)), ?_⟩
      repeat (walk_at "pl e")
      rw [if_pos] at h
      · exact h
      · exact ⟨by simpa using c1, by simpa using c2⟩
    · repeat (walk_at "pl e")
      refine ite_f (by decide) ?_
      repeat (walk_at "pl e")
      rw [if_neg] at h
      · exact h
      · exact fun ⟨_, e⟩ => c2 (by simpa using e)
  · repeat (walk_at "pl e")
    refine ite_f (by decide) ?_
    repeat (walk_at "pl e")
    rw [if_neg] at h
    · exact h
    · exact fun ⟨e, _⟩ => c1 (by simpa using e)
theorem normpath_ok {g : Gd} {a b c : Addr} (hf : Fn g P12 23 a) (hf9 : Fn g P12 10 b) (hf11 : Fn g P12 20 c) (hb : Free g BI) {o : Bool} {l : List Nat} (hn : l.length ≤ 1000000) {Q : V → Led → Prop} {X : XL} {H : Led}
    (h : ∀ H', H.Sublist H' → Q (.txt o (normS l)) H') : CallT g (2 + 1) (.ref a) [.txt o l] Q X H := by
  obtain ⟨hm, fd, F⟩ := hf
  refine CallT.def_ F (by rw [pars23]; rfl) fun C hC hro => ?_
  rw [pars23]
  refine TSs.le start1 ?_
  refine TSs.cons ?_
  refine TS.exprR rfl ?_
  refine TE.const_str ?_
  refine TSs.cons ?_
  repeat (walk_at "pl e")
  refine TE.callG hC hf9 (by kernel_rfl) (by kernel_rfl) ?_
  repeat (walk_at "pl e")
  refine CallV.fnI hC (fspath_ok hf9 hb ?_) (by decide)
  refine TSs.cons ?_
  refine TS.cut (P := fun f σ' => f = .next ∧ Le ⟨[("path", .txt o l), ("sep", .txt o [47]), ("dot", .txt o [46]), ("dotdot", .txt o [46, 46])], H⟩ σ') ?_ ?_
  · repeat (walk_at "pl e")
    refine call_isinstance_txt (p := true) ?_
    walk_at "pl e"
    cases o
    · refine ite_f (by decide) ?_
      repeat (walk_at "pl e")
      exact ⟨rfl, by walk_at "pl lo", List.Sublist.refl _⟩
    · refine ite_t (by decide) ?_
      repeat (walk_at "pl e")
      exact ⟨rfl, by walk_at "pl lo", List.Sublist.refl _⟩
  rintro _ σ' ⟨rfl, hle⟩
  refine TSs.le hle ?_
  clear hle σ'
  refine TSs.cons ?_
  repeat (walk_at "pl e")
  refine Tru.txt (by (clear hro hC C F fd hm h H X Q o hb hf11 hf9 c b a g; (first | lia | omega))) ?_
  unfold normS at h
  refine ite_b (fun c1 => ?_) (fun c1 => ?_)
  · have c1 : l = [] := by simpa using c1
    repeat (walk_at "pl e")
    rw [if_pos c1] at h
    exact h _ (List.Sublist.refl _)
  have c1 : l ≠ [] := by simpa using c1
  rw [if_neg c1] at h
  have hr := rootN_le l
  have hsplit := splitS_sum 47 (l.drop (rootN l))
  have hslen := splitS_length 47 (l.drop (rootN l))
  have hspart : ∀ p ∈ splitS 47 (l.drop (rootN l)), p.length ≤ l.length := fun p hp => Nat.le_trans (splitS_part_length hp) (by rw [List.length_drop]; (first | lia | omega))
  have hdl : (l.drop (rootN l)).length ≤ l.length := by rw [List.length_drop]; (first | lia | omega)
  have hbnd := fun m => fold_bounds (rootN l) ((splitS 47 (l.drop (rootN l))).take m) []
  refine TSs.nil ?_
  refine TSs.cons ?_
  refine TS.assignTo ?_
  refine TE.callG hC hf11 (by kernel_rfl) (by kernel_rfl) ?_
  repeat (walk_at "pl e")
  refine CallV.fnI hC (splitroot_ok hf11 hf9 hb (by (first | lia | omega)) ?_) (by decide)
  refine TAs.tuple hC.calm rfl ?_
  refine TIn.cons (TAs.name (by walk_at "pl st") ?_)
  refine TIn.cons (TAs.name (by walk_at "pl st") ?_)
  refine TIn.cons (TAs.name (by walk_at "pl st") ?_)
  refine TIn.nil ?_
  refine TSs.cons ?_
  refine TS.assign (by walk_at "pl st") ?_
  refine TE.split o ?_
  repeat (walk_at "pl e")
  refine ⟨by (first | lia | omega), ?_⟩
  refine TSs.cons ?_
  refine TS.assign (by walk_at "pl st") ?_
  refine TE.listM ?_
  refine TArgs.nil ⟨by simp, fun aN => ?_⟩
  generalize hcs : splitS 47 (l.drop (rootN l)) = cs at *
  generalize rootN l = r at *
  refine TSs.cons ?_
  refine TS.for_ hC.calm ?_
  repeat (walk_at "pl e")
  refine ⟨_, _, Walk.lst, fun i σ => Le ⟨[("sep", .txt o [47]), ("dot", .txt o [46]), ("dotdot", .txt o [46, 46]), ("initial_slashes", .txt o (List.replicate r 47)), ("new_comps", .ref aN)], (aN, .list ((normC r (cs.take i)).map (.txt o))) :: H⟩ σ,
    ⟨by walk_at "pl lo", List.Sublist.refl _⟩, fun _ _ _ => trivial, ?_, ?_⟩
  · intro i u σ hu hle
    rw [List.getElem?_map] at hu
    obtain ⟨c, hc, rfl⟩ : ∃ c, cs[i]? = some c ∧ u = .txt o c := by
      cases e : cs[i]? with
      | none => rw [e] at hu; cases hu
      | some c => rw [e] at hu; cases hu; exact ⟨c, rfl, rfl⟩
    refine TAs.name (by walk_at "pl st") ?_
    refine TSs.le hle.both ?_
    have nx := normC_take (r := r) hc
    have hclen := hspart c (List.mem_of_getElem? hc)
    have hacc := (hbnd i).1
    rw [List.length_nil, Nat.zero_add] at hacc
    have hacc2 : (cs.take i).length ≤ cs.length := List.length_take_le' i cs
    rw [show (cs.take i).foldl (stepN r) [] = normC r (cs.take i) from rfl] at hacc
    generalize normC r (cs.take i) = acc at hacc nx ⊢
    refine TSs.cons ?_
    refine TS.if_ ?_
    refine TB.cut (P := fun bb σ' => bb = decide (c = [] ∨ c = [46]) ∧ σ' = ⟨setL [("sep", .txt o [47]), ("dot", .txt o [46]), ("dotdot", .txt o [46, 46]), ("initial_slashes", .txt o (List.replicate r 47)), ("new_comps", .ref aN)] "comp" (.txt o c), (aN, .list (acc.map (.txt o))) :: H⟩) ?_ ?_
    · repeat (walk_at "pl e")
      refine Tru.txt (by (first | lia | omega)) ?_
      refine ite_b (fun c2 => ?_) (fun c2 => ?_)
      · have c2 : c = [] := by simpa using c2
        exact ⟨by simp [c2], rfl⟩
      · have c2 : c ≠ [] := by simpa using c2
        repeat (walk_at "pl e")
        refine ite_b (fun c3 => ?_) (fun c3 => ?_)
        · have c3 : c = [46] := by simpa using c3
          exact ⟨by simp [c3], rfl⟩
        · have c3 : c ≠ [46] := by simpa using c3
          repeat (walk_at "pl e")
          exact ⟨by simp [c2, c3], rfl⟩
    rintro _ _ ⟨rfl, rfl⟩
    refine ite_b (fun c2 => ?_) (fun c2 => ?_)
    · have c2 : c = [] ∨ c = [46] := by simpa using c2
      repeat (walk_at "pl e")
      refine ⟨by walk_at "pl lo", ?_⟩
      show List.Sublist ((aN, AO.list ((normC r (cs.take (i + 1))).map (.txt o))) :: H) _
      rw [nx]
      unfold stepN
      rw [if_pos c2]
      exact List.Sublist.refl _
    have c2 : ¬ (c = [] ∨ c = [46]) := by simpa using c2
    refine TSs.nil ?_
    refine TSs.cons ?_
    refine TS.if_ ?_
    refine TB.cut (P := fun bb σ' => bb = decide (c ≠ [46, 46] ∨ (r = 0 ∧ acc = []) ∨ (acc ≠ [] ∧ acc[acc.length - 1]? = some [46, 46])) ∧ σ' = ⟨setL [("sep", .txt o [47]), ("dot", .txt o [46]), ("dotdot", .txt o [46, 46]), ("initial_slashes", .txt o (List.replicate r 47)), ("new_comps", .ref aN)] "comp" (.txt o c), (aN, .list (acc.map (.txt o))) :: H⟩) ?_ ?_
    · repeat (walk_at "pl e")
      refine ite_b (fun c3 => ?_) (fun c3 => ?_)
      · have c3 : c ≠ [46, 46] := by simpa using c3
        exact ⟨by simp [c3], rfl⟩
      have c3 : c = [46, 46] := by simpa using c3
      repeat (walk_at "pl e")
      refine Tru.txt (by rw [List.length_replicate]; (first | lia | omega)) ?_
      refine ite_b (fun c4 => ?_) (fun c4 => ?_)
      · have c4 : r = 0 := by
          cases r with
          | zero => rfl
          | succ r => simp [List.replicate_succ] at c4
        repeat (walk_at "pl e")
        refine Tru.list (.mt List.mem_cons_self) (by rw [List.length_map]; (first | lia | omega)) ?_
        refine ite_b (fun c5 => ?_) (fun c5 => ?_)
        · have c5 : acc = [] := by simpa using c5
          repeat (walk_at "pl e")
          refine ite_t rfl ?_
          exact ⟨by simp [c4, c5], rfl⟩
        · have c5 : acc ≠ [] := by simpa using c5
          have hl : acc.length - 1 < acc.length := by have := List.length_pos_iff.mpr c5; (first | lia | omega)
          have hg : (acc.map (V.txt o))[acc.length - 1]? = some (.txt o acc[acc.length - 1]) := by rw [List.getElem?_map, List.getElem?_eq_getElem hl]; rfl
          repeat (walk_at "pl e")
          refine ite_f (by decide) ?_
          repeat (walk_at "pl e")
          refine Tru.list (.mt List.mem_cons_self) (by rw [List.length_map]; (first | lia | omega)) ?_
          refine ite_t (by simp [c5]) ?_
          repeat (walk_at "pl e")
          refine Item.list (.mt List.mem_cons_self) (by rw [List.length_map]; (first | lia | omega)) ⟨by rw [if_pos (by decide), List.length_map]; (first | lia | omega), by rw [List.length_map]; exact hl⟩ hg ?_
          repeat (walk_at "pl e")
          refine ite_b (fun c7 => ?_) (fun c7 => ?_)
          · have c7 : acc[acc.length - 1] = [46, 46] := by simpa using c7
            repeat (walk_at "pl e")
            refine ite_t rfl ?_
            exact ⟨by rw [List.getElem?_eq_getElem hl, c7]; simp [c5], rfl⟩
          · have c7 : ¬ acc[acc.length - 1] = [46, 46] := by simpa using c7
            refine ite_f (by decide) ?_
            repeat (walk_at "pl e")
            exact ⟨by rw [List.getElem?_eq_getElem hl]; simp [c3, c5, c7], rfl⟩
      · have c4 : r ≠ 0 := by
          intro e; subst e; simp at c4
        refine ite_f (by decide) ?_
        by_cases c5 : acc = []
        · repeat (walk_at "pl e")
          refine Tru.list (.mt List.mem_cons_self) (by rw [List.length_map]; (first | lia | omega)) ?_
          refine ite_f (by simp [c5]) ?_
          refine ite_f (by decide) ?_
          repeat (walk_at "pl e")
          exact ⟨by simp [c3, c4, c5], rfl⟩
        · have hl : acc.length - 1 < acc.length := by have := List.length_pos_iff.mpr c5; (first | lia | omega)
          have hg : (acc.map (V.txt o))[acc.length - 1]? = some (.txt o acc[acc.length - 1]) := by rw [List.getElem?_map, List.getElem?_eq_getElem hl]; rfl
          repeat (walk_at "pl e")
          repeat (walk_at "pl e")
          refine Tru.list (.mt List.mem_cons_self) (by rw [List.length_map]; (first | lia | omega)) ?_
          refine ite_t (by simp [c5]) ?_
          repeat (walk_at "pl e")
          refine Item.list (.mt List.mem_cons_self) (by rw [List.length_map]; (first | lia | omega)) ⟨by rw [if_pos (by decide), List.length_map]; (first | lia | omega), by rw [List.length_map]; exact hl⟩ hg ?_
          repeat (walk_at "pl e")
          refine ite_b (fun c7 => ?_) (fun c7 => ?_)
          · have c7 : acc[acc.length - 1] = [46, 46] := by simpa using c7
            repeat (walk_at "pl e")
            refine ite_t rfl ?_
            exact ⟨by rw [List.getElem?_eq_getElem hl, c7]; simp [c5], rfl⟩
          · have c7 : ¬ acc[acc.length - 1] = [46, 46] := by simpa using c7
            refine ite_f (by decide) ?_
            repeat (walk_at "pl e")
            exact ⟨by rw [List.getElem?_eq_getElem hl]; simp [c3, c5, c7], rfl⟩
    rintro _ _ ⟨rfl, rfl⟩
    refine ite_b (fun c3 => ?_) (fun c3 => ?_)
    · have c3 : c ≠ [46, 46] ∨ (r = 0 ∧ acc = []) ∨ (acc ≠ [] ∧ acc[acc.length - 1]? = some [46, 46]) := of_decide_eq_true c3
      refine TSs.cons ?_
      refine TS.expr ?_
      refine TE.appendM ?_
      repeat (walk_at "pl e")
      refine ⟨aN, _, rfl, List.mem_cons_self, ?_⟩
      repeat (walk_at "pl e")
      refine ⟨_, acc.map (.txt o), _, rfl, .head, by rw [List.length_map]; (first | lia | omega), ?_⟩
      repeat (walk_at "pl e")
      refine ⟨by walk_at "pl lo", ?_⟩
      show List.Sublist ((aN, AO.list ((normC r (cs.take (i + 1))).map (.txt o))) :: H) _
      rw [nx]
      unfold stepN
      rw [if_neg c2, if_pos c3, List.map_append]
      exact List.Sublist.refl _
    · have c3 : ¬ (c ≠ [46, 46] ∨ (r = 0 ∧ acc = []) ∨ (acc ≠ [] ∧ acc[acc.length - 1]? = some [46, 46])) := of_decide_eq_false (by simpa using c3)
      repeat (walk_at "pl e")
      refine Tru.list (.mt List.mem_cons_self) (by rw [List.length_map]; (first | lia | omega)) ?_
      unfold stepN at nx
      rw [if_neg c2, if_neg c3] at nx
      by_cases c5 : acc = []
      · refine ite_f (by simp [c5]) ?_
        repeat (walk_at "pl e")
        refine ⟨by walk_at "pl lo", ?_⟩
        show List.Sublist ((aN, AO.list ((normC r (cs.take (i + 1))).map (.txt o))) :: H) _
        rw [nx, c5]; exact List.Sublist.refl _
      · refine ite_t (by simp [c5]) ?_
        refine TSs.cons ?_
        refine TS.expr ?_
        refine TE.popM ?_
        repeat (walk_at "pl e")
        have hl : acc.length - 1 < acc.length := by have := List.length_pos_iff.mpr c5; (first | lia | omega)
        refine ⟨aN, acc.map (.txt o), .txt o acc[acc.length - 1], _, rfl, .head, by rw [List.length_map]; (first | lia | omega), by rw [List.length_map, List.getElem?_map, List.getElem?_eq_getElem hl]; rfl, ?_⟩
        repeat (walk_at "pl e")
        refine ⟨by walk_at "pl lo", ?_⟩
        show List.Sublist ((aN, AO.list ((normC r (cs.take (i + 1))).map (.txt o))) :: H) _
        rw [nx, List.map_dropLast]
        exact List.Sublist.refl _
  · intro σ hle
    refine TSs.le hle ?_
    rw [List.length_map, List.take_of_length_le (Nat.le_refl _)]
    have hfin := hbnd cs.length
    rw [List.take_of_length_le (Nat.le_refl _), show cs.foldl (stepN r) [] = normC r cs from rfl] at hfin
    obtain ⟨hf1, hf2⟩ := hfin
    rw [List.length_nil, Nat.zero_add] at hf1
    rw [show sumL [] = 0 from rfl, Nat.zero_add] at hf2
    refine TSs.nil ?_
    refine TSs.cons ?_
    repeat (walk_at "pl e")
    refine TE.join o ?_
    repeat (walk_at "pl e")
    have hj : (joinS [47] (normC r cs)).length ≤ 3000000 := by
      rw [joinS_length]
      have : sumL (normC r cs) = ((normC r cs).map List.length).sum := rfl
      simp only [List.length_singleton]
      (first | lia | omega)
    refine ⟨_, normC r cs, rfl, .mt List.mem_cons_self, ?_, ?_⟩
    · have : sumL (normC r cs) = ((normC r cs).map List.length).sum := rfl
      simp only [List.length_singleton]
      (first | lia | omega)
    refine Bin.add_txt (by rw [List.length_replicate]; (first | lia | omega)) ?_
    have h := h ((aN, AO.list ((normC r cs).map (.txt o))) :: H) (List.sublist_cons_self _ H)
    dsimp only at h
    generalize hpath : List.replicate r 47 ++ joinS [47] (normC r cs) = path at *
    have hpl : path.length ≤ 3000002 := by rw [← hpath, List.length_append, List.length_replicate]; (first | lia | omega)
    repeat (walk_at "pl e")
    refine TE.boolop ?_
    refine TEb.or_cons ?_
    repeat (walk_at "pl e")
    refine Tru.txt (by (first | lia | omega)) ?_
    refine ite_b (fun c6 => ?_) (fun c6 => ?_)
    · have c6 : path ≠ [] := by simpa using c6
      rw [if_neg c6] at h
      exact h
    · have c6 : path = [] := by simpa using c6
      refine TEb.one ?_
      repeat (walk_at "pl e")
      rw [if_pos c6] at h
      exact h
theorem commonpath_ok {g : Gd} {a b : Addr} (hf : Fn g P12 24 a) (hf9 : Fn g P12 10 b) (hb : Free g BI) {o : Bool} {ps : List (List Nat)} (h0 : ps ≠ []) (hn : ps.length ≤ 1000) (hm : ∀ p ∈ ps, p.length ≤ 10000) {Q : V → Led → Prop} {X : XL} {H : Led}
    (h : (∀ p ∈ ps, headIs 47 p = headIs 47 (ps.headD [])) → ∀ H', H.Sublist H' → Q (.txt o (cpS ps)) H') (hx : (∃ p ∈ ps, headIs 47 p = true) → (∃ p ∈ ps, headIs 47 p = false) → ∀ H', H.Sublist H' → X "ValueError" H') : CallT g (2 + 1) (.ref a) [.lst (ps.map (.txt o))] Q X H := by
  obtain ⟨hmg, fd, F⟩ := hf
  refine CallT.defX F (by rw [pars24]; rfl) fun C hC hro hOwn => ?_
  rw [pars24]
  refine TSs.le start1 ?_
  refine TSs.cons ?_
  refine TS.exprR rfl ?_
  refine TE.const_str ?_
  refine TSs.cons ?_
  refine TS.assign (by walk_at "pl st") ?_
  refine TE.tupleMap hC hb (by kernel_rfl) (by kernel_rfl) ?_
  refine TArgs.cons (TE.nameF hC hf9 (by kernel_rfl) (by kernel_rfl) ?_)
  repeat (walk_at "pl e")
  refine ⟨.ref b, ps.map (.txt o), ps.map (.txt o), 1, rfl, by decide, rfl, by rw [List.length_map]; (clear hOwn hro hC C F fd hmg hx h H X Q hm h0 o hb hf9 b a g; (first | lia | omega)), fun i v w H' hv hw => ?_, ?_⟩
  · rw [hv] at hw
    cases hw
    rw [List.getElem?_map] at hv
    obtain ⟨c, hc, rfl⟩ : ∃ c, ps[i]? = some c ∧ v = .txt o c := by
      cases e : ps[i]? with
      | none => rw [e] at hv; cases hv
      | some c => rw [e] at hv; cases hv; exact ⟨c, rfl, rfl⟩
    exact fspath_ok hf9 hb ⟨rfl, rfl⟩
  have hl0 : 0 < ps.length := List.length_pos_iff.mpr h0
  refine TSs.le (σ' := ⟨[("paths", .tup (ps.map (.txt o)))], H⟩) ⟨by walk_at "pl lo", List.Sublist.refl _⟩ ?_
  refine TSs.cons ?_
  repeat (walk_at "pl e")
  refine Tru.tup (by rw [List.length_map]; (clear hOwn hro hC C F fd hmg hx h H X Q hm h0 o hb hf9 b a g hl0; (first | lia | omega))) ?_
  refine ite_f (by simp [h0]) ?_
  refine TSs.nil ?_
  refine TSs.cons ?_
  refine TS.cut (P := fun f σ' => f = .next ∧ Le ⟨[("paths", .tup (ps.map (.txt o))), ("sep", .txt o [47]), ("curdir", .txt o [46])], H⟩ σ') ?_ ?_
  · repeat (walk_at "pl e")
    refine Item.tup (j := 0) (u := .txt o ps[0]) (by rw [List.length_map]; (clear hOwn hro hC C F fd hmg hx h H X Q hm h0 o hb hf9 b a g hl0; (first | lia | omega))) ⟨by rw [if_neg (by decide)]; rfl, by rw [List.length_map]; (clear hOwn hro hC C F fd hmg hx h H X Q hm hn h0 o hb hf9 b a g; (first | lia | omega))⟩ (by rw [List.getElem?_map, List.getElem?_eq_getElem hl0]; rfl) ?_
    repeat (walk_at "pl e")
    refine call_isinstance_txt (p := true) ?_
    repeat (walk_at "pl e")
    cases o
    · refine ite_f (by decide) ?_
      repeat (walk_at "pl e")
      exact ⟨rfl, by walk_at "pl lo", List.Sublist.refl _⟩
    · refine ite_t (by decide) ?_
      repeat (walk_at "pl e")
      exact ⟨rfl, by walk_at "pl lo", List.Sublist.refl _⟩
  rintro _ σ' ⟨rfl, hle⟩
  refine TSs.le hle ?_
  clear hle σ'
  refine TSs.cons ?_
  refine TS.try_ hOwn ?_
  refine TSs.cons ?_
  refine TS.assignComp hC (by walk_at "pl comp") (by kernel_rfl) (by kernel_rfl) (by kernel_rfl) ?_
  repeat (walk_at "pl e")
  refine ⟨List Nat, ps, fun p => .txt o p, fun p => some (.lst ((splitS 47 p).map (.txt o))), [("sep", .txt o [47])], H, fun _ => True, Walk.tup, fun _ _ => trivial, List.Sublist.refl _, by walk_at "pl lf", by (clear hOwn hro hC C F fd hmg hx h H X Q hm h0 o hb hf9 b a g hl0; (first | lia | omega)), ?_, .inl ?_⟩
  · intro C' hC' p hp
    refine TAs.name (hC'.stL (by kernel_rfl)) ?_
    refine TIfs.nil ?_
    refine ite_t rfl ?_
    refine TE.split o ?_
    repeat (walk_at "pl e")
    have := hm p hp
    exact ⟨by (clear hp hC' C' hl0 hOwn hro hC C F fd hmg hx h H X Q hm hn h0 o hb hf9 b a g ps; (first | lia | omega)), rfl, by walk_at "pl lo", List.Sublist.refl _⟩
  rw [filterMap_some]
  refine TSs.le (σ' := ⟨[("paths", .tup (ps.map (.txt o))), ("sep", .txt o [47]), ("curdir", .txt o [46]), ("split_paths", .lst (ps.map fun p => .lst ((splitS 47 p).map (.txt o))))], H⟩) ⟨by walk_at "pl lo", List.Sublist.refl _⟩ ?_
  refine TSs.cons ?_
  refine TS.unpackB hOwn hC.calm (by walk_at "pl st") (fun a σ => hC.nameMk (by kernel_rfl) hb (by decide +kernel) BI_VE a σ) (fun a σ => hC.nameMk (by kernel_rfl) hb (by decide +kernel) BI_VE a σ) (fun a σ => TArgs.cons (TE.const_str (TArgs.nil ⟨by decide, rfl⟩))) ?_
  refine TE.setcompB hC (by walk_at "pl comp") ?_
  repeat (walk_at "pl e")
  refine ⟨List Nat, ps, fun p => .txt o p, fun p => headIs 47 p, [("sep", .txt o [47])], H, fun _ => True, Walk.tup, fun _ _ => trivial, List.Sublist.refl _, by walk_at "pl lf", by (clear hOwn hro hC C F fd hmg hx h H X Q hm h0 o hb hf9 b a g hl0; (first | lia | omega)), ?_, fun aS ep => ⟨aS, _, _, ep, rfl, List.mem_cons_self, ?_⟩⟩
  · intro C' hC' p hp
    refine TAs.name (hC'.stL (by kernel_rfl)) ?_
    refine TIfs.nil ?_
    refine ite_t rfl ?_
    refine TE.startswith o ?_
    repeat (walk_at "pl e")
    exact ⟨rfl, by walk_at "pl lo", List.Sublist.refl _⟩
  by_cases hmix : (∃ p ∈ ps, headIs 47 p = true) ∧ (∃ p ∈ ps, headIs 47 p = false)
  · refine .inr ⟨?_, ?_, ?_⟩
    · obtain ⟨p, hp, e⟩ := hmix.2
      exact List.any_eq_true.mpr ⟨p, hp, by simp [e]⟩
    · obtain ⟨p, hp, e⟩ := hmix.1
      exact List.any_eq_true.mpr ⟨p, hp, e⟩
    · refine ⟨_, _, spec_VE2, fun a => ?_, ?_⟩
      · refine TE.tuple ?_
        refine TArgs.cons ((hC.nameMk (by kernel_rfl) hb (by decide +kernel) BI_TE a _).cut ?_)
        rintro _ _ ⟨rfl, rfl⟩
        refine TArgs.cons ((hC.nameMk (by kernel_rfl) hb (by decide +kernel) BI_AE a _).cut ?_)
        rintro _ _ ⟨rfl, rfl⟩
        exact TArgs.nil ⟨by decide, rfl, rfl⟩
      · rw [if_neg Bool.false_ne_true]
        exact hx hmix.1 hmix.2 _ (List.sublist_cons_self _ _)
  have hsame : ∀ p ∈ ps, headIs 47 p = headIs 47 (ps.headD []) := by
    have hd : ps.headD [] ∈ ps := by
      cases ps with
      | nil => exact absurd rfl h0
      | cons p r => exact List.mem_cons_self
    intro p hp
    cases e1 : headIs 47 p with
    | true => cases e2 : headIs 47 (ps.headD []) with
      | true => rfl
      | false => exact absurd ⟨⟨p, hp, e1⟩, ⟨_, hd, e2⟩⟩ hmix
    | false => cases e2 : headIs 47 (ps.headD []) with
      | false => rfl
      | true => exact absurd ⟨⟨_, hd, e2⟩, ⟨p, hp, e1⟩⟩ hmix
  have h := h hsame
  have hne : ps ≠ [] := h0
  refine .inl ⟨headIs 47 (ps.headD []), ?_, ?_, ?_⟩
  · cases ps with
    | nil => exact absurd rfl h0
    | cons p r =>
      have hsame : ∀ q ∈ p :: r, headIs 47 q = headIs 47 p := hsame
      show (((p :: r).any fun x => !headIs 47 x) : Bool) = !headIs 47 p
      cases e : headIs 47 p with
      | true => rw [List.any_eq_false.mpr fun q hq => by rw [hsame q hq, e]; decide]; rfl
      | false => rw [List.any_eq_true.mpr ⟨p, List.mem_cons_self, by rw [e]; rfl⟩]; rfl
  · cases ps with
    | nil => exact absurd rfl h0
    | cons p r =>
      have hsame : ∀ q ∈ p :: r, headIs 47 q = headIs 47 p := hsame
      show ((p :: r).any fun x => headIs 47 x) = headIs 47 p
      cases e : headIs 47 p with
      | true => exact List.any_eq_true.mpr ⟨p, List.mem_cons_self, e⟩
      | false => exact List.any_eq_false.mpr fun q hq => by rw [hsame q hq, e]; decide
  generalize hr : headIs 47 (ps.headD []) = r at h ⊢
  refine TSs.le (σ' := ⟨[("sep", .txt o [47]), ("curdir", .txt o [46]), ("split_paths", .lst (ps.map fun p => .lst ((splitS 47 p).map (.txt o)))), ("isabs", .bool r)], H⟩) ⟨by walk_at "pl lo", List.sublist_cons_self _ _⟩ ?_
  refine TSs.cons ?_
  refine TS.assignComp hC (by walk_at "pl comp") (by kernel_rfl) (by kernel_rfl) (by kernel_rfl) ?_
  repeat (walk_at "pl e")
  refine ⟨List Nat, ps, fun p => .lst ((splitS 47 p).map (.txt o)), fun p => some (.lst ((compsS p).map (.txt o))), [("curdir", .txt o [46])], H, fun _ => True, Walk.lst, fun _ _ => trivial, List.Sublist.refl _, by walk_at "pl lf", by (first | lia | omega), ?_, .inl ?_⟩
  · intro C' hC' p hp
    refine TAs.name (hC'.stL (by kernel_rfl)) ?_
    refine TIfs.nil ?_
    refine ite_t rfl ?_
    have hlp := hm p hp
    have hsum := splitS_length 47 p
    have hcnt : (splitS 47 p).length ≤ 10001 := by
      have := splitS_sum 47 p
      (first | lia | omega)
    refine TE.listcompF hC' (by walk_at "pl comp") ?_
    repeat (walk_at "pl e")
    refine ⟨List Nat, splitS 47 p, fun c => .txt o c, fun c => if nm? c then some (.txt o c) else none, [("curdir", .txt o [46])], H, fun _ => True, Walk.lst, fun _ _ => trivial, List.Sublist.refl _, by walk_at "pl lf", by (first | lia | omega), ?_, ?_⟩
    · intro C2 hC2 c hc
      have hcl : c.length ≤ p.length := splitS_part_length hc
      refine TAs.name (hC2.stL (by kernel_rfl)) ?_
      refine TIfs.one ?_
      refine TB.cut (P := fun t σ' => t = nm? c ∧ Le ⟨[("curdir", .txt o [46]), ("c", .txt o c)], H⟩ σ') ?_ ?_
      · repeat (walk_at "pl e")
        refine Tru.txt (by (first | lia | omega)) ?_
        refine ite_b (fun c1 => ?_) (fun c1 => ?_)
        · repeat (walk_at "pl e")
          have c1 : c ≠ [] := by simpa using c1
          refine ite_b (fun c2 => ?_) (fun c2 => ?_)
          · have c2 : c ≠ [46] := by simpa using c2
            repeat (walk_at "pl e")
            exact ⟨by unfold nm?; simp [c1, c2], by walk_at "pl lo", List.Sublist.refl _⟩
          · have c2 : c = [46] := by simpa using c2
            exact ⟨by subst c2; rfl, by walk_at "pl lo", List.Sublist.refl _⟩
        · have c1 : c = [] := by simpa using c1
          exact ⟨by subst c1; rfl, by walk_at "pl lo", List.Sublist.refl _⟩
      · rintro _ σ' ⟨rfl, hle⟩
        cases e : nm? c with
        | false =>
          refine ite_f (by decide) ?_
          exact ⟨by simp [e], Le.trans (b := ⟨[("curdir", .txt o [46]), ("c", .txt o c)], H⟩) ⟨by walk_at "pl lo", List.Sublist.refl _⟩ hle⟩
        | true =>
          refine ite_t rfl ?_
          refine TE.le hle ?_
          repeat (walk_at "pl e")
          exact ⟨by simp [e], by walk_at "pl lo", List.Sublist.refl _⟩
    · refine ⟨?_, by walk_at "pl lo", List.Sublist.refl _⟩
      rw [filterMap_if]; rfl
  rw [filterMap_some]
  have els : (ps.map fun p => V.lst ((compsS p).map (.txt o))) = (ps.map compsS).map fun l => V.lst (l.map (.txt o)) := by rw [List.map_map]; rfl
  rw [els]
  have hls0 : 0 < (ps.map compsS).length := by rw [List.length_map]; exact hl0
  have hbest : ∀ op, ∃ p ∈ ps, bestL op (ps.map compsS) = compsS p := fun op => by
    have := bestL_mem op (ls := ps.map compsS) (by simpa using h0)
    obtain ⟨p, hp, e⟩ := List.mem_map.mp this
    exact ⟨p, hp, e.symm⟩
  have hcomp : ∀ p ∈ ps, (compsS p).length ≤ 10001 ∧ sumL (compsS p) ≤ 10000 := fun p hp => by
    have h1 := hm p hp
    have h2 := splitS_sum 47 p
    have h3 := splitS_length 47 p
    have h4 : (compsS p).length ≤ (splitS 47 p).length := List.length_filter_le _ _
    have h5 : sumL (compsS p) ≤ sumL (splitS 47 p) := sumL_filter _ _
    have h6 : sumL (splitS 47 p) = ((splitS 47 p).map List.length).sum := rfl
    (first | lia | omega)
  have hsafe := bestL_le (ps.map compsS)
  have hcp : cpS ps = (if r then [47] else []) ++ joinS [47] (pfx (bestL .Lt (ps.map compsS)) (bestL .Gt (ps.map compsS))) := by rw [← hr]; rfl
  rw [hcp] at h
  obtain ⟨p1, hp1, e1⟩ := hbest .Lt
  obtain ⟨p2, hp2, e2⟩ := hbest .Gt
  have hc1 := hcomp p1 hp1
  have hc2 := hcomp p2 hp2
  rw [← e1] at hc1
  rw [← e2] at hc2
  refine TSs.cons ?_
  repeat (walk_at "pl e")
  refine call_minL (o := o) hC.calm (.fz _) hls0 ?_
  refine TSs.cons ?_
  repeat (walk_at "pl e")
  refine call_maxL (o := o) hC.calm (.fz _) hls0 ?_
  generalize bestL .Lt (ps.map compsS) = s1 at *
  generalize bestL .Gt (ps.map compsS) = s2 at *
  refine TSs.cons ?_
  repeat (walk_at "pl e")
  refine TS.cut (P := fun f σ' => f = .next ∧ ∃ k, Le ⟨[("sep", .txt o [47]), ("isabs", .bool r), ("common", .lst ((s1.take k).map (.txt o)))], H⟩ σ' ∧ pfx s1 s2 = s1.take k) ?_ ?_
  · refine TS.forEnum hC hb (by kernel_rfl) ?_
    repeat (walk_at "pl e")
    refine ⟨fun i σ => Le ⟨[("sep", .txt o [47]), ("isabs", .bool r), ("s1", .lst (s1.map (.txt o))), ("s2", .lst (s2.map (.txt o))), ("common", .lst (s1.map (.txt o)))], H⟩ σ ∧ s1.take i = s2.take i, ⟨⟨by walk_at "pl lo", List.Sublist.refl _⟩, rfl⟩, ?_, ?_⟩
    · rintro i u σ hu ⟨hle, heq⟩
      rw [List.getElem?_map] at hu
      obtain ⟨c, hc, rfl⟩ : ∃ c, s1[i]? = some c ∧ u = .txt o c := by
        cases e : s1[i]? with
        | none => rw [e] at hu; cases hu
        | some c => rw [e] at hu; cases hu; exact ⟨c, rfl, rfl⟩
      have hi1 : i < s1.length := (List.getElem?_eq_some_iff.mp hc).1
      have hi2 : i < s2.length := le_reach hsafe heq hi1
      have hd : s2[i]? = some s2[i] := List.getElem?_eq_getElem hi2
      refine TAs.tuple hC.calm rfl ?_
      refine TIn.cons (TAs.name (by walk_at "pl st") ?_)
      refine TIn.cons (TAs.name (by walk_at "pl st") ?_)
      refine TIn.nil ?_
      refine TSs.le hle.both.both ?_
      refine TSs.cons ?_
      repeat (walk_at "pl e")
      refine Item.listN (.fz _) (j := i) (u := .txt o s2[i]) (by rw [List.length_map]; (first | lia | omega)) (by rw [List.getElem?_map, hd]; rfl) ?_
      repeat (walk_at "pl e")
      refine ite_b (fun c1 => ?_) (fun c1 => ?_)
      · have c1 : c ≠ s2[i] := by simpa using c1
        repeat (walk_at "pl e")
        refine Slc.list (.fz _) (by rw [List.length_map]; (first | lia | omega)) (by simp) ?_
        rw [pick_plain, sl_to, ← List.map_take]
        repeat (walk_at "pl e")
        exact ⟨rfl, i, ⟨by walk_at "pl lo", List.Sublist.refl _⟩, pfx_ne heq hc hd c1⟩
      · have c1 : c = s2[i] := by simpa using c1
        repeat (walk_at "pl e")
        refine ⟨⟨by walk_at "pl lo", List.Sublist.refl _⟩, ?_⟩
        rw [List.take_add_one, List.take_add_one, heq, hc, hd, c1]
    · rintro σ ⟨hle, heq⟩
      rw [List.length_map] at heq
      refine TSs.nil ⟨rfl, s1.length, Le.trans (b := ⟨[("sep", .txt o [47]), ("isabs", .bool r), ("s1", .lst (s1.map (.txt o))), ("s2", .lst (s2.map (.txt o))), ("common", .lst (s1.map (.txt o)))], H⟩) ⟨?_, List.Sublist.refl _⟩ hle, ?_⟩
      · rw [List.take_length]; walk_at "pl lo"
      · rw [List.take_length]; exact pfx_all heq
  rintro _ σ' ⟨rfl, k, hle, hk⟩
  rw [hk] at h
  refine TSs.le hle ?_
  clear hle σ'
  have hkl : (s1.take k).length ≤ s1.length := List.length_take_le' k s1
  have hks := sumL_take s1 k
  generalize s1.take k = cm at *
  have hcs : sumL cm = (cm.map List.length).sum := rfl
  refine TSs.cons ?_
  refine TS.assign (by walk_at "pl st") ?_
  refine TE.cut (P := fun v σ' => v = .txt o (if r then [47] else []) ∧ Le ⟨[("sep", .txt o [47]), ("common", .lst (cm.map (.txt o)))], H⟩ σ') ?_ ?_
  · repeat (walk_at "pl e")
    cases r with
    | true =>
      refine ite_t rfl ?_
      repeat (walk_at "pl e")
      exact ⟨rfl, by walk_at "pl lo", List.Sublist.refl _⟩
    | false =>
      refine ite_f (by decide) ?_
      repeat (walk_at "pl e")
      refine Slc.txt (by decide) ?_
      exact ⟨rfl, by walk_at "pl lo", List.Sublist.refl _⟩
  rintro _ σ' ⟨rfl, hle⟩
  refine TSs.le hle.both ?_
  clear hle σ'
  refine TSs.cons ?_
  repeat (walk_at "pl e")
  refine TE.join o ?_
  repeat (walk_at "pl e")
  have hj : (joinS [47] cm).length ≤ 30000 := by
    rw [joinS_length]
    simp only [List.length_singleton]
    (first | lia | omega)
  refine ⟨_, cm, rfl, .fz _, ?_, ?_⟩
  · simp only [List.length_singleton]
    (first | lia | omega)
  refine Bin.add_txt (by cases r <;> simp <;> (first | lia | omega)) ?_
  exact h _ (List.Sublist.refl _)
end PL

end
section
open PySem PySem.Calls PyProof.Rows
set_option Elab.async false
set_option linter.unusedVariables false
set_option linter.unusedSimpArgs false
set_option maxHeartbeats 4000000
namespace PL
/-! rows of pairs: a count of slashes and a name -/
noncomputable abbrev Row := List (Nat × List Nat)
noncomputable def pc (p : Nat × List Nat) : List Nat := List.replicate p.1 47 ++ p.2
noncomputable def spR (r : Row) : List Nat := (r.map pc).flatten
structure GoodR (r : Row) : Prop where
  ne : r ≠ []
  free : ∀ p ∈ r, 47 ∉ p.2
  cnt : ∀ p ∈ r.tail, 0 < p.1
  nm : ∀ p ∈ r.dropLast, p.2 ≠ []
noncomputable def headR (r : Row) : Row := if 1 < r.length then r.dropLast else [((r.headD (0, [])).1, [])]
theorem spR_app (a b : Row) : spR (a ++ b) = spR a ++ spR b := by unfold spR; rw [List.map_append, List.flatten_append]
theorem spR_one (p : Nat × List Nat) : spR [p] = pc p := by simp [spR]
theorem spR_cons (p : Nat × List Nat) (r : Row) : spR (p :: r) = pc p ++ spR r := rfl
theorem GoodR.snoc {r : Row} (h : GoodR r) : ∃ a k n, r = a ++ [(k, n)] := by
  rcases List.eq_nil_or_concat r with x | ⟨a, p, x⟩
  · exact absurd x h.ne
  · exact ⟨a, p.1, p.2, by rw [x, List.concat_eq_append]⟩
theorem good_one {k : Nat} {n : List Nat} (h : 47 ∉ n) : GoodR [(k, n)] :=
  ⟨by simp, fun p hp => by rw [List.mem_singleton.mp hp]; exact h, fun p hp => by simp at hp, fun p hp => by simp at hp⟩
theorem tail_app {α : Type} {a b : List α} (h : a ≠ []) : (a ++ b).tail = a.tail ++ b := by
  cases a with
  | nil => exact absurd rfl h
  | cons x a => rfl
/-- a good row, seen from its end -/
theorem good_snoc {a : Row} {k : Nat} {n : List Nat} : GoodR (a ++ [(k, n)]) ↔ (a = [] ∨ (GoodR a ∧ 0 < k ∧ ∀ p ∈ a, p.2 ≠ [])) ∧ 47 ∉ n := by
  constructor
  · intro h
    refine ⟨?_, h.free (k, n) (by simp)⟩
    by_cases ha : a = []
    · exact .inl ha
    refine .inr ⟨⟨ha, fun p hp => h.free p (List.mem_append_left _ hp), fun p hp => h.cnt p (by rw [tail_app ha]; exact List.mem_append_left _ hp), fun p hp => h.nm p (by rw [List.dropLast_concat]; exact List.dropLast_subset _ hp)⟩, h.cnt (k, n) (by rw [tail_app ha]; simp), fun p hp => h.nm p (by rw [List.dropLast_concat]; exact hp)⟩
  · rintro ⟨h, hn⟩
    rcases h with rfl | ⟨h, hk, hm⟩
    · exact good_one hn
    refine ⟨by simp, fun p hp => ?_, fun p hp => ?_, fun p hp => ?_⟩
    · rcases List.mem_append.mp hp with e | e
      · exact h.free p e
      · rw [List.mem_singleton.mp e]; exact hn
    · rw [tail_app h.ne] at hp
      rcases List.mem_append.mp hp with e | e
      · exact h.cnt p e
      · rw [List.mem_singleton.mp e]; exact hk
    · rw [List.dropLast_concat] at hp; exact hm p hp
theorem last_of {x n : List Nat} (h : n ≠ []) (hn : 47 ∉ n) : lastIs 47 (x ++ n) = false := by
  unfold lastIs
  rw [List.getLast?_append, List.getLast?_eq_some_getLast h, Option.some_or]
  simp only [beq_eq_false_iff_ne, ne_eq, Option.some.injEq]
  intro e
  exact hn (e ▸ List.getLast_mem h)
theorem named_last {a : Row} (h : GoodR a) (hm : ∀ p ∈ a, p.2 ≠ []) : spR a ≠ [] ∧ lastIs 47 (spR a) = false := by
  obtain ⟨b, k, n, rfl⟩ := h.snoc
  have hn : n ≠ [] := hm (k, n) (by simp)
  have hf := h.free (k, n) (by simp)
  rw [spR_app, spR_one]
  unfold pc
  rw [← List.append_assoc]
  exact ⟨by simp [hn], last_of hn hf⟩
theorem cut_good {a : Row} {k : Nat} {n : List Nat} (h : GoodR (a ++ [(k, n)])) : cut 47 (spR (a ++ [(k, n)])) = (spR a ++ List.replicate k 47).length := by
  obtain ⟨h1, h2⟩ := good_snoc.mp h
  rw [spR_app, spR_one]
  unfold pc
  rw [← List.append_assoc, cut_app_free 47 _ _ h2]
  cases k with
  | zero =>
    rcases h1 with rfl | ⟨_, h, _⟩
    · rfl
    · exact absurd h (Nat.lt_irrefl _)
  | succ k =>
    rw [List.replicate_succ', ← List.append_assoc, cut_end, List.length_append (bs := [47])]; rfl
theorem base_good {a : Row} {k : Nat} {n : List Nat} (h : GoodR (a ++ [(k, n)])) : baseS (spR (a ++ [(k, n)])) = n := by
  unfold baseS
  rw [cut_good h, spR_app, spR_one]
  unfold pc
  rw [← List.append_assoc, List.drop_left]
theorem dir_good {a : Row} {k : Nat} {n : List Nat} (h : GoodR (a ++ [(k, n)])) : GoodR (headR (a ++ [(k, n)])) ∧ dirS (spR (a ++ [(k, n)])) = spR (headR (a ++ [(k, n)])) := by
  obtain ⟨h1, h2⟩ := good_snoc.mp h
  have ht : (spR (a ++ [(k, n)])).take (cut 47 (spR (a ++ [(k, n)]))) = spR a ++ List.replicate k 47 := by
    rw [cut_good h, spR_app, spR_one]
    unfold pc
    rw [← List.append_assoc, List.take_left]
  unfold dirS
  rw [ht]
  rcases h1 with rfl | ⟨ga, hk, hm⟩
  · refine ⟨good_one (by simp), ?_⟩
    rw [show spR [] = [] from rfl, List.nil_append, List.length_replicate, if_neg (fun x => x.2 rfl)]
    show _ = spR [(k, [])]
    rw [spR_one]
    simp [pc]
  · have e : headR (a ++ [(k, n)]) = a := by
      unfold headR
      rw [if_pos, List.dropLast_concat]
      have := List.length_pos_iff.mpr ga.ne
      rw [List.length_append, List.length_singleton]
      (first | lia | omega)
    rw [e]
    obtain ⟨n1, n2⟩ := named_last ga hm
    refine ⟨ga, ?_⟩
    rw [if_pos, rstrip_many, rstrip_free (by rw [n2]; decide)]
    refine ⟨by simp [n1], fun q => ?_⟩
    rw [List.length_append, List.length_replicate, ← List.replicate_append_replicate] at q
    have q2 := (List.append_inj q (by simp)).1
    rw [q2] at n2
    unfold lastIs at n2
    rw [List.getLast?_replicate, if_neg] at n2
    · simp at n2
    · rw [List.length_eq_zero_iff]; exact n1
theorem head_good {k : Nat} {n : List Nat} {t : Row} (h : GoodR ((k, n) :: t)) : headIs 47 (spR ((k, n) :: t)) = decide (0 < k) := by
  have hf := h.free (k, n) (by simp)
  rw [spR_cons]
  unfold pc headIs
  cases k with
  | succ k => simp [List.replicate_succ]
  | zero =>
    cases n with
    | nil =>
      cases t with
      | nil => rfl
      | cons p t => exact absurd rfl (h.nm (0, []) (by simp))
    | cons x n =>
      simp only [List.mem_cons, not_or] at hf
      simp [Ne.symm hf.1]
theorem nil_good {r : Row} (h : GoodR r) : spR r = [] ↔ r = [(0, [])] := by
  constructor
  · intro e
    obtain ⟨a, k, n, rfl⟩ := h.snoc
    obtain ⟨h1, h2⟩ := good_snoc.mp h
    rw [spR_app, spR_one, List.append_eq_nil_iff] at e
    rcases h1 with rfl | ⟨ga, _, hm⟩
    · have e2 := e.2
      unfold pc at e2
      rw [List.append_eq_nil_iff, List.replicate_eq_nil_iff] at e2
      obtain ⟨x, y⟩ := e2
      dsimp only at x y
      rw [x, y]; rfl
    · exact absurd e.1 (named_last ga hm).1
  · rintro rfl; rfl
theorem last_good {a : Row} {k : Nat} {n : List Nat} (h : GoodR (a ++ [(k, n)])) (h0 : spR (a ++ [(k, n)]) ≠ []) : lastIs 47 (spR (a ++ [(k, n)])) = decide (n = []) := by
  obtain ⟨h1, h2⟩ := good_snoc.mp h
  rw [spR_app, spR_one]
  unfold pc
  rw [← List.append_assoc]
  by_cases hn : n = []
  · subst hn
    have hk : 0 < k := by
      rcases h1 with rfl | ⟨_, hk, _⟩
      · cases k with
        | zero => exact absurd rfl h0
        | succ k => exact Nat.succ_pos _
      · exact hk
    obtain ⟨j, rfl⟩ : ∃ j, k = j + 1 := ⟨k - 1, by (first | lia | omega)⟩
    rw [List.append_nil, List.replicate_succ', ← List.append_assoc]
    simp [lastIs]
  · rw [last_of hn h2]; simp [hn]
/-- one behind the other -/
noncomputable def joinR (a b : Row) : Row :=
  if 0 < (b.headD (0, [])).1 ∨ a = [(0, [])] then b
  else if ((a.getLast?).getD (0, [])).2 = [] then a.dropLast ++ [(((a.getLast?).getD (0, [])).1, (b.headD (0, [])).2)] ++ b.tail
  else a ++ [(1, (b.headD (0, [])).2)] ++ b.tail
theorem good_tail {a t : Row} {p : Nat × List Nat} {k : Nat} (ha : a = [] ∨ (GoodR a ∧ 0 < k ∧ ∀ p ∈ a, p.2 ≠ [])) (h : GoodR (p :: t)) : GoodR (a ++ [(k, p.2)] ++ t) := by
  have hf := h.free p (by simp)
  have hc : ∀ q ∈ t, 0 < q.1 := fun q hq => h.cnt q hq
  have ht : ∀ q ∈ t, 47 ∉ q.2 := fun q hq => h.free q (List.mem_cons_of_mem _ hq)
  have h1 : GoodR (a ++ [(k, p.2)]) := good_snoc.mpr ⟨ha, hf⟩
  refine ⟨by simp, fun q hq => ?_, fun q hq => ?_, fun q hq => ?_⟩
  · rcases List.mem_append.mp hq with e | e
    · exact h1.free q e
    · exact ht q e
  · rw [tail_app (by simp)] at hq
    rcases List.mem_append.mp hq with e | e
    · exact h1.cnt q e
    · exact hc q e
  · cases t with
    | nil =>
      rw [List.append_nil, List.dropLast_concat] at hq
      rcases ha with rfl | ⟨_, _, hm⟩
      · simp at hq
      · exact hm q hq
    | cons x t =>
      rw [List.dropLast_append_of_ne_nil (by simp)] at hq
      have hnm : ∀ q ∈ p :: (x :: t).dropLast, q.2 ≠ [] := fun q hq => h.nm q (by simpa using hq)
      rcases List.mem_append.mp hq with e | e
      · rcases List.mem_append.mp e with e | e
        · rcases ha with rfl | ⟨_, _, hm⟩
          · simp at e
          · exact hm q e
        · rw [List.mem_singleton.mp e]; exact hnm p (by simp)
      · exact hnm q (List.mem_cons_of_mem _ e)
theorem join_good {a b : Row} (ha : GoodR a) (hb : GoodR b) : GoodR (joinR a b) ∧ spR (joinR a b) = jn1 (spR a) (spR b) := by
  obtain ⟨⟨k, n⟩, t, rfl⟩ : ∃ p t, b = p :: t := by
    cases b with
    | nil => exact absurd rfl hb.ne
    | cons p t => exact ⟨p, t, rfl⟩
  obtain ⟨c, j, m, rfl⟩ := ha.snoc
  have e1 := head_good hb
  have e2 := nil_good ha
  unfold joinR jn1
  rw [List.headD_cons, List.tail_cons, List.getLast?_concat, List.dropLast_concat]
  by_cases h0 : 0 < k ∨ c ++ [(j, m)] = [(0, [])]
  · rw [if_pos h0, if_pos (h0.imp (fun h => by rw [e1]; exact decide_eq_true h) e2.mpr)]
    exact ⟨hb, rfl⟩
  · have hs : spR (c ++ [(j, m)]) ≠ [] := fun q => h0 (.inr (e2.mp q))
    have hk : k = 0 := Nat.eq_zero_of_not_pos fun q => h0 (.inl q)
    have e3 := last_good ha hs
    obtain ⟨g1, g2⟩ := good_snoc.mp ha
    rw [if_neg h0, if_neg (c := headIs 47 (spR ((k, n) :: t)) = true ∨ spR (c ++ [(j, m)]) = []) (by rw [e1]; simpa [hs] using hk), e3]
    show GoodR (if m = [] then c ++ [(j, n)] ++ t else c ++ [(j, m)] ++ [(1, n)] ++ t) ∧ spR (if m = [] then c ++ [(j, n)] ++ t else c ++ [(j, m)] ++ [(1, n)] ++ t) = _
    by_cases hm : m = []
    · rw [if_pos hm, if_pos (decide_eq_true hm)]
      refine ⟨good_tail g1 hb, ?_⟩
      subst hm hk
      rw [spR_app, spR_app, spR_app, spR_one, spR_one, spR_cons]
      simp [pc]
    · rw [if_neg hm, if_neg (by simpa using hm)]
      refine ⟨good_tail (.inr ⟨ha, Nat.one_pos, ?_⟩) hb, ?_⟩
      · intro p hp
        rcases List.mem_append.mp hp with e | e
        · rcases g1 with rfl | ⟨_, _, h⟩
          · simp at e
          · exact h p e
        · rw [List.mem_singleton.mp e]; exact hm
      subst hk
      rw [spR_app (c ++ [(j, m)] ++ [(1, n)]), spR_app (c ++ [(j, m)]), spR_one, spR_cons]
      simp [pc]
/-- the ending -/
theorem ext_good {a : Row} {k : Nat} {n m : List Nat} (h : GoodR (a ++ [(k, n)])) (hm : 47 ∉ m) : GoodR (a ++ [(k, n.take (atN n) ++ m)]) ∧ spR (a ++ [(k, n.take (atN n) ++ m)]) = (spR (a ++ [(k, n)])).take (extN (spR (a ++ [(k, n)]))) ++ m := by
  obtain ⟨h1, h2⟩ := good_snoc.mp h
  refine ⟨good_snoc.mpr ⟨h1, fun q => (List.mem_append.mp q).elim (fun q => h2 (List.mem_of_mem_take q)) hm⟩, ?_⟩
  unfold extN
  rw [base_good h, cut_good h, spR_app, spR_app, spR_one, spR_one]
  unfold pc
  rw [← List.append_assoc, ← List.append_assoc, ← List.append_assoc, List.take_length_add_append]
theorem ext_drop {a : Row} {k : Nat} {n : List Nat} (h : GoodR (a ++ [(k, n)])) : (spR (a ++ [(k, n)])).drop (extN (spR (a ++ [(k, n)]))) = n.drop (atN n) := by
  unfold extN
  rw [base_good h, cut_good h, spR_app, spR_one]
  unfold pc
  rw [← List.append_assoc, List.drop_length_add_append]
/-- the names -/
noncomputable def namesR (r : Row) : List (List Nat) := (r.map (·.2)).filter nm?
theorem comps_app (a b : List Nat) : compsS (a ++ 47 :: b) = compsS a ++ compsS b := by unfold compsS; rw [splitS_app, List.filter_append]
theorem comps_rep (k : Nat) (l : List Nat) : compsS (List.replicate k 47 ++ l) = compsS l := by
  unfold compsS
  rw [splitS_rep, List.filter_append, List.filter_eq_nil_iff.mpr, List.nil_append]
  intro x hx
  rw [(List.mem_replicate.mp hx).2]; decide
theorem split_free {n : List Nat} (h : 47 ∉ n) : splitS 47 n = [n] := splitS_join 47 [n] (by simp) (fun p hp => by rw [List.mem_singleton.mp hp]; exact h)
theorem comps_free {n : List Nat} (h : 47 ∉ n) : compsS n = [n].filter nm? := by unfold compsS; rw [split_free h]
theorem comps_row : ∀ (t : Row) (p : Nat × List Nat), 47 ∉ p.2 → (∀ q ∈ t, 47 ∉ q.2 ∧ 0 < q.1) → compsS (spR (p :: t)) = namesR (p :: t)
  | [], p, h, _ => by
    rw [spR_one]
    unfold pc
    rw [comps_rep, comps_free h]; rfl
  | q :: t, p, h, k => by
    have ih := comps_row t q (k q (by simp)).1 fun x hx => k x (List.mem_cons_of_mem _ hx)
    obtain ⟨j, hj⟩ : ∃ j, q.1 = j + 1 := ⟨q.1 - 1, by have := (k q (by simp)).2; (first | lia | omega)⟩
    have e : spR (q :: t) = 47 :: (List.replicate j 47 ++ q.2 ++ spR t) := by
      rw [spR_cons]; unfold pc; rw [hj, List.replicate_succ]; rfl
    rw [spR_cons, e]
    unfold pc
    rw [List.append_assoc, comps_rep, comps_app, comps_free h]
    have e2 : compsS (List.replicate j 47 ++ q.2 ++ spR t) = namesR (q :: t) := by
      rw [← ih, e]
      exact (comps_app [] _).symm
    rw [e2]
    unfold namesR
    rw [List.map_cons (l := q :: t)]
    exact (List.filter_append (p := nm?) [p.2] ((q :: t).map (·.2))).symm
theorem comps_good {r : Row} (h : GoodR r) : compsS (spR r) = namesR r := by
  cases r with
  | nil => exact absurd rfl h.ne
  | cons p t => exact comps_row t p (h.free p (by simp)) fun q hq => ⟨h.free q (List.mem_cons_of_mem _ hq), h.cnt q hq⟩
theorem lead_good {k : Nat} {n : List Nat} {t : Row} (h : GoodR ((k, n) :: t)) : leadN (spR ((k, n) :: t)) = k := by
  have h0 : headIs 47 (n ++ spR t) = false := by
    cases n with
    | cons x n =>
      have hf := h.free (k, x :: n) (by simp)
      simp only [List.mem_cons, not_or] at hf
      simp [headIs, Ne.symm hf.1]
    | nil =>
      cases t with
      | nil => rfl
      | cons p t => exact absurd rfl (h.nm (k, []) (by simp))
  rw [spR_cons]
  unfold pc
  rw [List.append_assoc]
  generalize n ++ spR t = y at h0
  clear h
  induction k with
  | zero =>
    cases y with
    | nil => rfl
    | cons x y =>
      show leadN (x :: y) = 0
      rw [leadN_cons, if_neg]
      intro e
      subst e
      cases h0
  | succ k ih =>
    rw [List.replicate_succ, List.cons_append, leadN_cons, if_pos rfl, ih]
noncomputable def rowR (k : Nat) (ns : List (List Nat)) : Row := (k, ns.headD []) :: ns.tail.map fun n => (1, n)
theorem row_spell : ∀ (k : Nat) (ns : List (List Nat)), spR (rowR k ns) = outH k ns
  | k, [] => by unfold rowR outH; rw [spR_cons]; simp [pc, spR, joinS]
  | k, [n] => by unfold rowR outH; rw [spR_cons]; simp [pc, spR, joinS]
  | k, n :: m :: r => by
    have ih := row_spell 1 (m :: r)
    unfold rowR outH at ih ⊢
    rw [List.headD_cons, List.tail_cons, spR_cons] at ih
    rw [List.headD_cons, List.tail_cons, List.map_cons, spR_cons, spR_cons, ih]
    simp [pc, joinS]
theorem row_good {k : Nat} {ns : List (List Nat)} (h : ∀ n ∈ ns, n ≠ [] ∧ 47 ∉ n) : GoodR (rowR k ns) := by
  cases ns with
  | nil => exact good_one (by simp)
  | cons n r =>
    refine ⟨by simp [rowR], fun p hp => ?_, fun p hp => ?_, fun p hp => ?_⟩
    · rcases List.mem_cons.mp hp with e | e
      · rw [e]; exact (h n (by simp)).2
      · obtain ⟨m, hm, rfl⟩ := List.mem_map.mp e
        exact (h m (List.mem_cons_of_mem _ hm)).2
    · obtain ⟨m, hm, rfl⟩ := List.mem_map.mp (show p ∈ r.map _ from hp)
      exact Nat.one_pos
    · rcases List.mem_cons.mp (List.dropLast_subset _ hp) with e | e
      · rw [e]; exact (h n (by simp)).1
      · obtain ⟨m, hm, rfl⟩ := List.mem_map.mp e
        exact (h m (List.mem_cons_of_mem _ hm)).1
theorem comps_ok (l : List Nat) : ∀ n ∈ compsS l, n ≠ [] ∧ n ≠ [46] ∧ 47 ∉ n := by
  intro n hn
  obtain ⟨h1, h2⟩ := List.mem_filter.mp hn
  have h3 := splitS_free 47 h1
  unfold nm? at h2
  simp at h2
  exact ⟨h2.1, h2.2, h3⟩
theorem normC_filter (r : Nat) : ∀ (ps acc : List (List Nat)), (ps.filter nm?).foldl (stepN r) acc = ps.foldl (stepN r) acc
  | [], acc => rfl
  | p :: ps, acc => by
    rw [List.filter_cons, List.foldl_cons]
    by_cases h : nm? p = true
    · rw [if_pos h, List.foldl_cons]; exact normC_filter r ps _
    · rw [if_neg h, normC_filter r ps acc]
      unfold nm? at h
      simp only [Bool.not_eq_true', Bool.not_eq_false', Bool.or_eq_true, beq_iff_eq, Bool.not_eq_true] at h
      have hh : p = [] ∨ p = [46] := by
        by_cases q : p = []
        · exact .inl q
        · exact .inr (by simpa [q] using h)
      rcases hh with rfl | rfl
      · rw [step_nil]
      · rw [step_dot]
/-- two names are struck out -/
noncomputable def strike (ns : List (List Nat)) (k : Nat) : List (List Nat) := ns.take k ++ ns.drop (k + 2)
theorem norm_strike {r : Nat} {ns : List (List Nat)} {k : Nat} {n : List Nat} (h1 : ns[k]? = some n) (h2 : ns[k + 1]? = some dd) (hn : nameN n) : normC r (strike ns k) = normC r ns := by
  have e : ns = ns.take k ++ [n, dd] ++ ns.drop (k + 2) := by
    obtain ⟨hk, e1⟩ := List.getElem?_eq_some_iff.mp h1
    obtain ⟨hk2, e2⟩ := List.getElem?_eq_some_iff.mp h2
    conv => lhs; rw [← List.take_append_drop k ns, List.drop_eq_getElem_cons hk, List.drop_eq_getElem_cons hk2, e1, e2]
    simp
  unfold strike normC
  conv => rhs; rw [e]
  rw [List.foldl_append, List.foldl_append, List.foldl_append, List.foldl_cons, List.foldl_cons, List.foldl_nil, step_name hn, step_up hn]
theorem norm_done {r : Nat} : ∀ (ns : List (List Nat)), (∀ n ∈ ns, n ≠ [] ∧ n ≠ [46] ∧ 47 ∉ n) → (∀ k : Nat, ns[k + 1]? = some dd → ns[k]? = some dd) → ∃ j ms, ns = List.replicate j dd ++ ms ∧ names? ms
  | [], _, _ => ⟨0, [], rfl, fun c hc => by cases hc⟩
  | x :: ns, h, k => by
    by_cases hx : x = dd
    · obtain ⟨j, ms, e, hm⟩ := norm_done (r := r) ns (fun n hn => h n (List.mem_cons_of_mem _ hn)) fun i hi => k (i + 1) hi
      exact ⟨j + 1, ms, by rw [hx, e]; rfl, hm⟩
    · refine ⟨0, x :: ns, rfl, fun c hc => ?_⟩
      have key : ∀ i : Nat, (x :: ns)[i]? ≠ some dd := by
        intro i
        induction i with
        | zero => simpa using hx
        | succ i ih => exact fun q => ih (k i q)
      obtain ⟨i, hi⟩ := List.mem_iff_getElem?.mp hc
      obtain ⟨a, b, d⟩ := h c hc
      exact ⟨a, b, fun q => key i (by rw [hi, q]), d⟩
theorem norm_dd {r : Nat} (hr : 0 < r) (ns : List (List Nat)) : normC r (dd :: ns) = normC r ns := by
  unfold normC
  rw [List.foldl_cons, step_ddr hr (cs := []) (fun c hc => by cases hc)]; rfl
/-- the plain path -/
theorem plain_good {k : Nat} {n : List Nat} {t : Row} (h : GoodR ((k, n) :: t)) {root : Nat} (hr : root = if k < 3 then k else 1) {fs : List (List Nat)}
    (h0 : normC root fs = normC root (namesR ((k, n) :: t))) (h1 : ∀ n ∈ fs, n ≠ [] ∧ n ≠ [46] ∧ 47 ∉ n) (h2 : ∀ k : Nat, fs[k + 1]? = some dd → fs[k]? = some dd) (h3 : root = 0 ∨ fs[0]? ≠ some dd) :
    GoodR (rowR root (if fs ≠ [] ∨ 0 < root then fs else [[46]])) ∧ spR (rowR root (if fs ≠ [] ∨ 0 < root then fs else [[46]])) = normS (spR ((k, n) :: t)) := by
  obtain ⟨j, ms, e, hm⟩ := norm_done (r := root) fs h1 h2
  have hR : rootN (spR ((k, n) :: t)) = root := by
    rw [rootN_lead, lead_good h, hr]
    by_cases a : k = 2
    · simp [a]
    · by_cases b : k < 3
      · rw [if_neg a, if_pos b]; split <;> (first | lia | omega)
      · rw [if_neg a, if_neg b, if_pos (by (first | lia | omega))]
  have hle : root ≤ 2 := by rw [hr]; split <;> (first | lia | omega)
  have hN : Norm root fs := by
    refine ⟨hle, j, ms, e, ?_, hm⟩
    rcases h3 with x | x
    · exact .inr x
    · left
      cases j with
      | zero => rfl
      | succ j => rw [e] at x; exact absurd rfl x
  have hC : normC root (splitS 47 (spR ((k, n) :: t))) = fs := by
    have := normC_filter root (splitS 47 (spR ((k, n) :: t))) []
    unfold normC
    rw [← this, show (splitS 47 (spR ((k, n) :: t))).filter nm? = namesR ((k, n) :: t) from comps_good h, show ∀ l : List (List Nat), l.foldl (stepN root) [] = normC root l from fun _ => rfl, ← h0, norm_fix hN]
  rw [normS_eq, hR, hC, row_spell]
  constructor
  · refine row_good fun m hm => ?_
    split at hm
    · obtain ⟨a, _, b⟩ := h1 m hm; exact ⟨a, b⟩
    · rw [List.mem_singleton.mp hm]; decide
  · unfold outS outH
    by_cases c : fs ≠ [] ∨ 0 < root
    · rw [if_pos c, if_neg]
      intro q
      rw [List.append_eq_nil_iff, List.replicate_eq_nil_iff] at q
      rcases c with c | c
      · cases fs with
        | nil => exact c rfl
        | cons x r =>
          have hx := (h1 x (by simp)).1
          cases r with
          | nil => exact hx q.2
          | cons y r => exact hx (List.append_eq_nil_iff.mp (List.append_eq_nil_iff.mp q.2).1).1
      · (first | lia | omega)
    · have c1 : fs = [] := Classical.byContradiction fun q => c (.inl q)
      have c2 : root = 0 := by (first | lia | omega)
      rw [if_neg c, c1, c2]; rfl
theorem cp_good {a b : Row} (ha : GoodR a) (hb : GoodR b) (h : headIs 47 (spR a) = headIs 47 (spR b)) : GoodR (rowR (if headIs 47 (spR a) then 1 else 0) (pfx (namesR a) (namesR b))) ∧ spR (rowR (if headIs 47 (spR a) then 1 else 0) (pfx (namesR a) (namesR b))) = cpS [spR a, spR b] := by
  constructor
  · refine row_good fun m hm => ?_
    obtain ⟨k, hk⟩ := pfx_len (namesR a) (namesR b)
    rw [hk, ← comps_good ha] at hm
    obtain ⟨x, _, y⟩ := comps_ok _ m (List.mem_of_mem_take hm)
    exact ⟨x, y⟩
  · rw [row_spell]
    unfold cpS outH
    rw [List.map_cons, List.map_cons, List.map_nil, cpL_two, comps_good ha, comps_good hb, List.headD_cons]
    cases headIs 47 (spR a) <;> rfl
end PL

end
section
open PySem PySem.Calls PyProof.Rows
set_option Elab.async false
set_option linter.unusedVariables false
set_option linter.unusedSimpArgs false
set_option maxRecDepth 100000
set_option maxHeartbeats 4000000

namespace PL

theorem pars26 : parsAt P12 26 = [("text" : Str), "octets"] := by kernel_rfl
theorem pars27 : parsAt P12 27 = [("q" : Str)] := by kernel_rfl
theorem pars28 : parsAt P12 28 = [("x" : Str), "one", "other", "octets"] := by kernel_rfl
theorem pars29 : parsAt P12 29 = [("row" : Str)] := by kernel_rfl
theorem pars30 : parsAt P12 30 = [("one" : Str), "other"] := by kernel_rfl
theorem pars31 : parsAt P12 31 = [("one" : Str)] := by kernel_rfl
theorem pars32 : parsAt P12 32 = [("name" : Str)] := by kernel_rfl
theorem pars33 : parsAt P12 33 = [("root" : Str), "names"] := by kernel_rfl
theorem pars34 : parsAt P12 34 = [("one" : Str)] := by kernel_rfl
theorem pars35 : parsAt P12 35 = [("one" : Str)] := by kernel_rfl
theorem pars36 : parsAt P12 36 = [("x" : Str), "one", "other"] := by kernel_rfl
theorem pars37 : parsAt P12 37 = [("script" : Str)] := by kernel_rfl
noncomputable abbrev pairV (p : Nat × List Nat) : V := .tup [.int (p.1 : Int), .txt false p.2]
noncomputable abbrev rowW (r : Row) : V := .lst (r.map pairV)
theorem kind_ok {g : Gd} {a : Addr} (hf : Fn g P12 26 a) (hb : Free g BI) {o : Bool} {l : List Nat} (hl : l.length ≤ 1000) (hc : ∀ c ∈ l, c < 256) {Q : V → Led → Prop} {X : XL} {K : Led}
    (h : Q (.txt o l) K) : CallT g (0 + 1) (.ref a) [.txt false l, .bool o] Q X K := by
  obtain ⟨hm, fd, F⟩ := hf
  refine CallT.def_ F (by rw [pars26]; rfl) fun C hC hro => ?_
  rw [pars26]
  refine TSs.le (start2 (by decide)) ?_
  refine TSs.cons ?_
  repeat (walk_at "pl e")
  cases o
  · refine ite_f (by decide) ?_
    repeat (walk_at "pl e")
    exact h
  · refine ite_t (by decide) ?_
    repeat (walk_at "pl e")
    refine TE.listcompF hC (by walk_at "pl comp") ?_
    repeat (walk_at "pl e")
    refine ⟨Nat, l, fun c => .txt false [c], fun c => some (.int (c : Int)), [], K, _, Walk.str, fun _ _ => trivial, List.Sublist.refl _, by walk_at "pl lf", by (clear h hro hC C F fd hm K X Q hc hb a g; (first | lia | omega)), ?_, ?_⟩
    · intro C' hC' c hc
      refine TAs.name (hC'.stL (by kernel_rfl)) ?_
      refine TIfs.nil ?_
      refine ite_t rfl ?_
      repeat (walk_at "pl e")
      refine call_ord ?_
      exact ⟨rfl, by walk_at "pl lo", List.Sublist.refl _⟩
    rw [filterMap_some]
    repeat (walk_at "pl e")
    refine call_bytes hC.calm (.fz _) hc (by (clear h hro hC C F fd hm K X Q hc hb a g; (first | lia | omega))) ?_
    exact h
noncomputable def sgn (q : Int) : Nat := ([47, 46, 97, (48 + (q.fdiv 256).fmod 208).toNat][((q.fdiv 64).fmod 4).toNat]?).getD 47
theorem fmod_nat (i : Int) (n : Nat) (h : 0 < n) : ∃ k : Nat, k < n ∧ i.fmod n = k := by
  have h1 := Int.fmod_nonneg_of_pos i (show (0 : Int) < n by (clear i; (first | lia | omega)))
  have h2 := Int.fmod_lt_of_pos i (show (0 : Int) < n by (clear h1 i; (first | lia | omega)))
  exact ⟨(i.fmod n).toNat, by (clear h; (first | lia | omega)), by (clear h2 h; (first | lia | omega))⟩
theorem sgn_lt (q : Int) : sgn q < 256 := by
  obtain ⟨k, h1, e1⟩ := fmod_nat (q.fdiv 256) 208 (by decide)
  obtain ⟨j, h2, e2⟩ := fmod_nat (q.fdiv 64) 4 (by decide)
  have e1 : (q.fdiv 256).fmod 208 = k := e1
  have e2 : (q.fdiv 64).fmod 4 = j := e2
  unfold sgn
  rw [e1, e2, Int.toNat_natCast]
  have : j = 0 ∨ j = 1 ∨ j = 2 ∨ j = 3 := by (first | lia | omega)
  rcases this with rfl | rfl | rfl | rfl
  · show 47 < 256
    decide
  · show 46 < 256
    decide
  · show 97 < 256
    decide
  · show (48 + (k : Int)).toNat < 256
    (first | lia | omega)
theorem sign_ok {g : Gd} {a : Addr} (hf : Fn g P12 27 a) (hb : Free g BI) {q : Int} {Q : V → Led → Prop} {X : XL} {K : Led}
    (h : Q (.txt false [sgn q]) K) : CallT g (0 + 1) (.ref a) [.int q] Q X K := by
  obtain ⟨hm, fd, F⟩ := hf
  refine CallT.def_ F (by rw [pars27]; rfl) fun C hC hro => ?_
  rw [pars27]
  refine TSs.le start1 ?_
  refine TSs.cons ?_
  repeat (walk_at "pl e")
  refine Bin.fdiv_int (by decide) (PyProof.noPylong_of_log2 (by decide +kernel)) ?_
  repeat (walk_at "pl e")
  refine Bin.mod_int (by decide) ?_
  obtain ⟨k, h1, e1⟩ := fmod_nat (q.fdiv 256) 208 (by decide)
  obtain ⟨j, h2, e2⟩ := fmod_nat (q.fdiv 64) 4 (by decide)
  have e1 : (q.fdiv 256).fmod 208 = k := e1
  have e2 : (q.fdiv 64).fmod 4 = j := e2
  rw [e1]
  repeat (walk_at "pl e")
  refine call_chr (by (first | lia | omega)) (by (first | lia | omega)) ?_
  refine TArgs.nil ⟨by simp, ?_⟩
  repeat (walk_at "pl e")
  refine Bin.fdiv_int (by decide) (PyProof.noPylong_of_log2 (by decide +kernel)) ?_
  repeat (walk_at "pl e")
  refine Bin.mod_int (by decide) ?_
  rw [e2]
  refine Item.listN (.fz _) (by simp) (u := .txt false [sgn q]) ?_ h
  unfold sgn
  rw [e1, e2, Int.toNat_natCast]
  have : j = 0 ∨ j = 1 ∨ j = 2 ∨ j = 3 := by (first | lia | omega)
  rcases this with rfl | rfl | rfl | rfl <;> rfl
theorem joinS_flat : ∀ ps : List (List Nat), joinS [] ps = ps.flatten
  | [] => rfl
  | [p] => by simp [joinS]
  | p :: q :: r => by
    have ih := joinS_flat (q :: r)
    unfold joinS
    rw [ih, List.append_nil]; rfl
/-- what is small about a row -/
structure Small (r : Row) : Prop where
  len : r.length ≤ 1000
  sp : (spR r).length ≤ 1000
theorem len_flat {ps : List (List Nat)} : ps.flatten.length = sumL ps := by rw [List.length_flatten]; rfl
theorem pair_small {r : Row} {p : Nat × List Nat} (h : (spR r).length ≤ 1000) (hp : p ∈ r) : p.1 + p.2.length ≤ 1000 := by
  have h1 := sumL_mem (List.mem_map_of_mem (f := pc) hp)
  rw [← len_flat] at h1
  unfold spR at h
  unfold pc at h1
  rw [List.length_append, List.length_replicate] at h1
  exact Nat.le_trans h1 h
theorem spelled_ok {g : Gd} {a : Addr} (hf : Fn g P12 29 a) (hb : Free g BI) {r : Row} (hr : Small r) {Q : V → Led → Prop} {X : XL} {K : Led}
    (h : Q (.txt false (spR r)) K) : CallT g (0 + 1) (.ref a) [rowW r] Q X K := by
  obtain ⟨hm, fd, F⟩ := hf
  obtain ⟨hl, hs⟩ := hr
  refine CallT.def_ F (by rw [pars29]; rfl) fun C hC hro => ?_
  rw [pars29]
  refine TSs.le start1 ?_
  refine TSs.cons ?_
  refine TS.ret ?_
  refine TE.joinS ?_
  repeat (walk_at "pl e")
  refine TE.listcompF hC (by walk_at "pl comp") ?_
  repeat (walk_at "pl e")
  refine ⟨Nat × List Nat, r, pairV, fun p => some (.txt false (pc p)), [], K, _, Walk.lst, fun _ _ => trivial, List.Sublist.refl _, by walk_at "pl lf", by (clear hro hC C hs F fd hm h K X Q hb a g; (first | lia | omega)), ?_, ?_⟩
  · intro C' hC' p hp
    have hp2 := pair_small hs hp
    refine TAs.tuple hC'.calm rfl ?_
    refine TIn.cons (TAs.name (hC'.stL (by kernel_rfl)) ?_) rfl
    refine TIn.cons (TAs.name (hC'.stL (by kernel_rfl)) ?_) rfl
    refine TIn.nil ?_
    refine TIfs.nil ?_
    refine ite_t rfl ?_
    repeat (walk_at "pl e")
    refine Bin.mul_txt (by (clear hp2 hp hC' C' hro hC C hs hl F fd hm h K X Q hb a g r; (first | lia | omega))) (by (clear hp hC' C' hro hC C hs hl F fd hm h K X Q hb a g r; (first | lia | omega))) ?_
    rw [Int.toNat_natCast]
    repeat (walk_at "pl e")
    refine Bin.add_txt (by rw [List.length_replicate]; (clear hp hC' C' hro hC C hs hl F fd hm h K X Q hb a g r; (first | lia | omega))) ?_
    exact ⟨rfl, by walk_at "pl lo", List.Sublist.refl _⟩
  rw [filterMap_some]
  refine TArgs.nil ⟨_, r.map pc, rfl, ?_, ?_, ?_⟩
  · rw [List.map_map]; exact .fz _
  · show sumL (r.map pc) + _ ≤ _
    rw [← len_flat, List.length_map, List.length_nil, Nat.mul_zero]
    exact Nat.le_trans hs (by decide)
  · rw [joinS_flat]; exact h
end PL

end
section
open PySem PySem.Calls PyProof.Rows
set_option Elab.async false
set_option linter.unusedVariables false
set_option linter.unusedSimpArgs false
set_option maxRecDepth 100000
set_option maxHeartbeats 4000000

namespace PL

theorem row_len (r : Row) : (r.map pairV).length = r.length := List.length_map ..
theorem row_at {r : Row} {i : Nat} {p : Nat × List Nat} (h : r[i]? = some p) : (r.map pairV)[i]? = some (pairV p) := by rw [List.getElem?_map, h]; rfl
theorem rowW_app (a t : Row) (p : Nat × List Nat) : rowW (a ++ [p] ++ t) = .lst (a.map pairV ++ [pairV p] ++ t.map pairV) := by
  unfold rowW; rw [List.map_append, List.map_append]; rfl
/-- is the row the empty path's -/
theorem eqv_nil : ∀ (r : Row), PyData.eqv (toD (rowW r)) (toD (rowW [(0, [])])) = decide (r = [(0, [])])
  | [] => rfl
  | [(k, n)] => by
    simp only [rowW, List.map_cons, List.map_nil, toD, toDs, PyData.eqv, PyData.eqvAll, Bool.and_true]
    cases k with
    | succ k => simp; (first | lia | omega)
    | zero =>
      cases n with
      | nil => rfl
      | cons x n => simp
  | (k, n) :: p :: r => by
    simp [rowW, toD, toDs, PyData.eqv, PyData.eqvAll]
theorem plain_row {r : Row} (h : ∀ c ∈ spR r, c < 256) : plainV (rowW r) = true := by
  show plainVs (r.map pairV) = true
  refine plainVs_all fun v hv => ?_
  obtain ⟨p, hp, rfl⟩ := List.mem_map.mp hv
  have : ∀ c ∈ p.2, c < 1114112 := fun c hc => by
    have := h c (List.mem_flatten.mpr ⟨pc p, List.mem_map_of_mem hp, List.mem_append_right _ hc⟩)
    (clear hc hv hp p h r; (first | lia | omega))
  simp only [plainV, plainVs, Bool.true_and, Bool.and_true, Bool.not_false, List.all_eq_true, decide_eq_true_eq]
  exact this
theorem deep_row (r : Row) : deepV (rowW r) ≤ 64 := by
  show deepVs (r.map pairV) + 1 ≤ 64
  have : deepVs (r.map pairV) ≤ 1 := deepVs_le fun v hv => by
    obtain ⟨p, hp, rfl⟩ := List.mem_map.mp hv
    exact Nat.le_refl 1
  (first | lia | omega)
theorem lawjoin_ok {g : Gd} {a : Addr} (hf : Fn g P12 30 a) (hb : Free g BI) {r s : Row} (hr : Small r) (hs : Small s) (hc : ∀ c ∈ spR r, c < 256) (h0 : r ≠ []) (h1 : s ≠ []) {Q : V → Led → Prop} {X : XL} {K : Led}
    (h : Q (rowW (joinR r s)) K) : CallT g (0 + 1) (.ref a) [rowW r, rowW s] Q X K := by
  obtain ⟨hm, fd, F⟩ := hf
  obtain ⟨hl, _⟩ := hr
  obtain ⟨hl2, _⟩ := hs
  have pr := plain_row hc
  clear hc
  have dr := deep_row r
  have er := eqv_nil r
  have lr := row_len r
  have ls := row_len s
  unfold joinR at h
  obtain ⟨⟨k, n⟩, gs⟩ : ∃ p, s[0]? = some p := ⟨_, List.getElem?_eq_getElem (List.length_pos_iff.mpr h1)⟩
  obtain ⟨⟨j, m⟩, gr⟩ : ∃ p, r[r.length - 1]? = some p := ⟨_, List.getElem?_eq_getElem (by have := List.length_pos_iff.mpr h0; (clear gs n k ls er dr pr hl2 F fd hm h K X Q h1 h0 hb a g lr hl; (first | lia | omega)))⟩
  have es : s.headD (0, []) = (k, n) := by rw [List.headD_eq_head?_getD, List.head?_eq_getElem?, gs]; rfl
  have el : r.getLast?.getD (0, []) = (j, m) := by rw [List.getLast?_eq_getElem?, gr]; rfl
  have hpos := List.length_pos_iff.mpr h0
  have hk : (r.map pairV).length = r.length - 1 + 1 := by (clear el es gr m j gs n k ls er dr pr hl2 F fd hm h K X Q h1 h0 hb a g hl; (first | lia | omega))
  rw [es, el] at h
  have ht : (s.tail.map pairV).length ≤ 1000 := by rw [List.length_map, List.length_tail]; (clear hk hpos el es gr h m j gs n k lr er dr pr hl F fd hm K X Q h1 h0 hb a g ls; (first | lia | omega))
  refine CallT.def_ F (by rw [pars30]; rfl) fun C hC hro => ?_
  rw [pars30]
  refine TSs.le (start2 (by decide)) ?_
  refine TSs.cons ?_
  refine TS.if_ ?_
  refine TB.cut (P := fun b σ' => b = decide (0 < k ∨ r = [(0, [])]) ∧ Le ⟨[("one", rowW r), ("other", rowW s)], K⟩ σ') ?_ ?_
  · repeat (walk_at "pl e")
    refine Item.listN (.fz _) (j := 0) (by (clear hro hC C ht hk hpos el es gr h m j gs n k lr er dr pr hl F fd hm K X Q h1 h0 hb a g; (first | lia | omega))) (row_at gs) ?_
    repeat (walk_at "pl e")
    refine Item.tupN (j := 0) (by simp) rfl ?_
    repeat (walk_at "pl e")
    refine ite_b (fun c => ?_) (fun c => ?_)
    · have c : 0 < k := by simpa using c
      exact ⟨by simp [c], by walk_at "pl lo", List.Sublist.refl _⟩
    · have c : k = 0 := by simpa using c
      repeat (walk_at "pl e")
      refine ⟨by simp, ?_⟩
      repeat (walk_at "pl e")
      refine ⟨by simp, ?_⟩
      refine Cmp.eq_data (b := rowW [(0, [])]) pr rfl dr (deep_row _) ?_
      rw [er]
      refine ⟨_, rfl, ?_⟩
      refine ite_b (fun c2 => ?_) (fun c2 => ?_)
      · have c2 : r = [(0, [])] := by simpa using c2
        exact ⟨by simp [c2], by walk_at "pl lo", List.Sublist.refl _⟩
      · have c2 : ¬ r = [(0, [])] := by simpa using c2
        refine TBall.or_nil ?_
        exact ⟨by simp [c, c2], by walk_at "pl lo", List.Sublist.refl _⟩
  rintro _ σ' ⟨rfl, hle⟩
  refine ite_b (fun c => ?_) (fun c => ?_)
  · rw [if_pos (of_decide_eq_true c)] at h
    refine TSs.le hle ?_
    repeat (walk_at "pl e")
    exact h
  rw [if_neg (fun q => c (decide_eq_true q))] at h
  refine TSs.nil ?_
  refine TSs.le hle ?_
  clear hle c σ'
  refine TSs.cons ?_
  repeat (walk_at "pl e")
  refine Item.listZ (.fz _) (by (clear hro hC C ht el es gr h m j gs n k ls er dr pr hl2 F fd hm K X Q h1 h0 hb a g hk hpos; (first | lia | omega))) hk (row_at gr) ?_
  repeat (walk_at "pl e")
  refine Item.tupN (j := 1) (by simp) rfl ?_
  repeat (walk_at "pl e")
  refine ite_b (fun c => ?_) (fun c => ?_)
  · have c : m = [] := by simpa using c
    rw [if_pos c] at h
    repeat (walk_at "pl e")
    refine Slc.list (.fz _) (by (first | lia | omega)) (by decide) ?_
    rw [pick_plain, sl_end, ← List.map_dropLast]
    repeat (walk_at "pl e")
    refine Item.listZ (.fz _) (by (first | lia | omega)) hk (row_at gr) ?_
    repeat (walk_at "pl e")
    refine Item.tupN (j := 0) (by simp) rfl ?_
    repeat (walk_at "pl e")
    refine Item.listN (.fz _) (j := 0) (by (first | lia | omega)) (row_at gs) ?_
    repeat (walk_at "pl e")
    refine Item.tupN (j := 1) (by simp) rfl ?_
    repeat (walk_at "pl e")
    refine ⟨by simp, ?_⟩
    repeat (walk_at "pl e")
    refine ⟨by simp, ?_⟩
    have hd : (r.dropLast.map pairV).length ≤ 1000 := by rw [List.length_map, List.length_dropLast]; (first | lia | omega)
    refine Bin.add_list (.fz _) (.fz _) ?_ ?_
    · simp only [List.length_singleton]; (first | lia | omega)
    repeat (walk_at "pl e")
    refine Slc.list (.fz _) (by (first | lia | omega)) (by decide) ?_
    rw [pick_plain, sl_fromL _ 1 1 rfl, List.drop_one, ← List.map_tail]
    refine Bin.add_list (.fz _) (.fz _) (by rw [List.length_append, List.length_singleton]; (first | lia | omega)) ?_
    rw [rowW_app] at h
    exact h
  · have c : ¬ m = [] := by simpa using c
    rw [if_neg c] at h
    refine TSs.nil ?_
    repeat (walk_at "pl e")
    refine Item.listN (.fz _) (j := 0) (by (first | lia | omega)) (row_at gs) ?_
    repeat (walk_at "pl e")
    refine Item.tupN (j := 1) (by simp) rfl ?_
    repeat (walk_at "pl e")
    refine ⟨by simp, ?_⟩
    repeat (walk_at "pl e")
    refine ⟨by simp, ?_⟩
    refine Bin.add_list (.fz _) (.fz _) ?_ ?_
    · simp only [List.length_singleton]; (first | lia | omega)
    repeat (walk_at "pl e")
    refine Slc.list (.fz _) (by (first | lia | omega)) (by decide) ?_
    rw [pick_plain, sl_fromL _ 1 1 rfl, List.drop_one, ← List.map_tail]
    refine Bin.add_list (.fz _) (.fz _) (by rw [List.length_append, List.length_singleton]; (first | lia | omega)) ?_
    rw [rowW_app] at h
    exact h
theorem head_ok {g : Gd} {a : Addr} (hf : Fn g P12 31 a) (hb : Free g BI) {r : Row} (hr : Small r) (h0 : r ≠ []) {Q : V → Led → Prop} {X : XL} {K : Led}
    (h : Q (rowW (headR r)) K) : CallT g (0 + 1) (.ref a) [rowW r] Q X K := by
  obtain ⟨hm, fd, F⟩ := hf
  obtain ⟨hl, _⟩ := hr
  have lr := row_len r
  unfold headR at h
  obtain ⟨⟨k, n⟩, gs⟩ : ∃ p, r[0]? = some p := ⟨_, List.getElem?_eq_getElem (List.length_pos_iff.mpr h0)⟩
  have es : r.headD (0, []) = (k, n) := by rw [List.headD_eq_head?_getD, List.head?_eq_getElem?, gs]; rfl
  rw [es] at h
  refine CallT.def_ F (by rw [pars31]; rfl) fun C hC hro => ?_
  rw [pars31]
  refine TSs.le start1 ?_
  refine TSs.cons ?_
  repeat (walk_at "pl e")
  refine call_len_list (.fz _) (by (clear hro hC C es gs h n k F fd hm K X Q h0 hb a g; (first | lia | omega))) ?_
  rw [lr]
  repeat (walk_at "pl e")
  refine ite_b (fun c => ?_) (fun c => ?_)
  · have c : 1 < r.length := by have := of_decide_eq_true c; (clear c hro hC C es gs h n k F fd hm K X Q h0 hb a g lr hl; (first | lia | omega))
    rw [if_pos c] at h
    repeat (walk_at "pl e")
    refine Slc.list (.fz _) (by (clear hro hC C es gs h n k F fd hm K X Q h0 hb a g c; (first | lia | omega))) (by decide) ?_
    rw [pick_plain, sl_end, ← List.map_dropLast]
    exact h
  · have c : ¬ 1 < r.length := fun q => c (decide_eq_true (by (clear c hro hC C es gs h n k F fd hm K X Q h0 hb a g lr hl; (first | lia | omega))))
    rw [if_neg c] at h
    repeat (walk_at "pl e")
    refine Item.listN (.fz _) (j := 0) (by (clear hro hC C es gs h n k F fd hm K X Q h0 hb a g c; (first | lia | omega))) (row_at gs) ?_
    repeat (walk_at "pl e")
    refine Item.tupN (j := 0) (by simp) rfl ?_
    repeat (walk_at "pl e")
    refine ⟨by simp, ?_⟩
    repeat (walk_at "pl e")
    exact ⟨by simp, h⟩
theorem lnames_ok {g : Gd} {a : Addr} (hf : Fn g P12 34 a) (hb : Free g BI) {r : Row} (hr : Small r) {Q : V → Led → Prop} {X : XL} {K : Led}
    (h : Q (.lst ((namesR r).map (.txt false))) K) : CallT g (0 + 1) (.ref a) [rowW r] Q X K := by
  obtain ⟨hm, fd, F⟩ := hf
  obtain ⟨hl, _⟩ := hr
  refine CallT.def_ F (by rw [pars34]; rfl) fun C hC hro => ?_
  rw [pars34]
  refine TSs.le start1 ?_
  refine TSs.cons ?_
  refine TS.ret ?_
  refine TE.listcompF hC (by walk_at "pl comp") ?_
  repeat (walk_at "pl e")
  refine ⟨Nat × List Nat, r, pairV, fun p => if nm? p.2 then some (.txt false p.2) else none, [], K, _, Walk.lst, fun _ _ => trivial, List.Sublist.refl _, by walk_at "pl lf", by (clear hro hC C F fd hm h K X Q hb a g; (first | lia | omega)), ?_, ?_⟩
  · intro C' hC' p hp
    refine TAs.tuple hC'.calm rfl ?_
    refine TIn.cons (TAs.name (hC'.stL (by kernel_rfl)) ?_) rfl
    refine TIn.cons (TAs.name (hC'.stL (by kernel_rfl)) ?_) rfl
    refine TIn.nil ?_
    refine TIfs.one ?_
    repeat (walk_at "pl e")
    refine ⟨by simp, ?_⟩
    refine Cmp.notInTup (ps := [[], [46]]) ?_
    refine ⟨_, rfl, ?_⟩
    have e : nm? p.2 = !decide (p.2 ∈ ([[], [46]] : List (List Nat))) := by
      unfold nm?
      rw [show decide (p.2 ∈ ([[], [46]] : List (List Nat))) = (p.2 == [] || p.2 == [46]) from by
        rw [Bool.eq_iff_iff]
        simp]
    refine ite_b (fun c => ?_) (fun c => ?_)
    · rw [e, if_pos c]
      repeat (walk_at "pl e")
      exact ⟨rfl, by walk_at "pl lo", List.Sublist.refl _⟩
    · rw [e, if_neg c]
      exact ⟨rfl, by walk_at "pl lo", List.Sublist.refl _⟩
  unfold namesR at h
  rw [filterMap_if (fun p : Nat × List Nat => V.txt false p.2) (fun p => nm? p.2)]
  rw [List.filter_map, List.map_map] at h
  exact h
end PL

end
section
open PySem PySem.Calls PyProof.Rows
set_option Elab.async false
set_option linter.unusedVariables false
set_option linter.unusedSimpArgs false
set_option maxRecDepth 100000
set_option maxHeartbeats 4000000

namespace PL

theorem fmod_neg1 (n : Nat) : (-1 : Int).fmod ((n : Int) + 1) = n := by
  rw [Int.fmod_eq_emod_of_nonneg _ (by (first | lia | omega)), ← Int.add_emod_right, Int.emod_eq_of_lt (by (first | lia | omega)) (by (first | lia | omega))]
  (first | lia | omega)
theorem cut_ok {g : Gd} {a : Addr} (hf : Fn g P12 32 a) (hb : Free g BI) {n : List Nat} (hn : n.length ≤ 1000) {Q : V → Led → Prop} {X : XL} {K : Led}
    (h : Q (.int ((atN n : Nat) : Int)) K) : CallT g (0 + 1) (.ref a) [.txt false n] Q X K := by
  obtain ⟨hm, fd, F⟩ := hf
  refine CallT.def_ F (by rw [pars32]; rfl) fun C hC hro => ?_
  rw [pars32]
  refine TSs.le start1 ?_
  refine TSs.cons ?_
  refine TS.assign (by walk_at "pl st") ?_
  refine TE.const_int ?_
  refine TSs.le (σ' := ⟨[("name", .txt false n), ("front", .int ((0 : Nat) : Int))], K⟩) ⟨by walk_at "pl lo", List.Sublist.refl _⟩ ?_
  refine TSs.cons ?_
  refine TS.cut (P := fun fl σ' => fl = .next ∧ ∃ f : Nat, f ≤ n.length ∧ (∀ i, i < f → n[i]? = some 46) ∧ n[f]? ≠ some 46 ∧ Le ⟨[("name", .txt false n), ("front", .int (f : Int))], K⟩ σ') ?_ ?_
  · refine TS.while_ (fun m σ => ∃ k : Nat, m = n.length - k ∧ k ≤ n.length ∧ (∀ i, i < k → n[i]? = some 46) ∧ Le ⟨[("name", .txt false n), ("front", .int (k : Int))], K⟩ σ) n.length ⟨0, rfl, Nat.zero_le _, fun i hi => absurd hi (Nat.not_lt_zero i), Le.refl _⟩ ?_
    rintro m σ ⟨k, rfl, hk, hall, hle⟩
    refine TB.le hle ?_
    clear hle
    have hget : (n.drop k).take 1 = [46] ↔ n[k]? = some 46 := by
      have e : n[k]? = (n.drop k)[0]? := by rw [List.getElem?_drop, Nat.add_zero]
      rw [e]
      cases (n.drop k) with
      | nil => simp
      | cons x r => simp
    repeat (walk_at "pl e")
    refine Slc.txt (by (clear hget hall hk σ hro hC C F fd hm h K X Q hb a g k; (first | lia | omega))) ?_
    rw [sl_12 n _ _ k rfl (by (clear hget hall hk σ hro hC C F fd hm h K X Q hn hb a g n; (first | lia | omega)))]
    repeat (walk_at "pl e")
    refine ite_b (fun c1 => ?_) (fun c1 => ?_)
    · have c1 : (n.drop k).take 1 = [46] := by simpa using c1
      have hg := hget.mp c1
      have hkl := (List.getElem?_eq_some_iff.mp hg).1
      repeat (walk_at "pl e")
      refine ⟨n.length - (k + 1), by (first | lia | omega), k + 1, rfl, hkl, fun i hi => ?_, by rw [show (((k + 1 : Nat)) : Int) = (k : Int) + 1 from by (first | lia | omega)]; walk_at "pl lo", List.Sublist.refl _⟩
      rcases Nat.lt_or_ge i k with x | x
      · exact hall i x
      · have : i = k := by (first | lia | omega)
        subst this; exact hg
    · have c1 : ¬ (n.drop k).take 1 = [46] := by simpa using c1
      exact TSs.nil ⟨rfl, k, hk, hall, fun x => c1 (hget.mpr x), Le.refl _⟩
  rintro _ σ' ⟨rfl, f, hf1, hf2, hf3, hle⟩
  refine TSs.le hle ?_
  clear hle σ'
  refine TSs.cons ?_
  repeat (walk_at "pl e")
  refine TE.listcompF hC (by walk_at "pl comp") ?_
  repeat (walk_at "pl e")
  refine call_len_txt (by (clear hf3 hf2 hf1 hro hC C F fd hm h K X Q hb a g f; (first | lia | omega))) ?_
  repeat (walk_at "pl e")
  refine call_range2 ?_
  refine ⟨Nat, List.range (n.length - f), fun k => .int ((f + k : Nat) : Int), fun k => if decide (n[f + k]? = some 46) = true then some (.int ((f + k : Nat) : Int)) else none, [("name", .txt false n)], K, _, Walk.rngAB (by (clear hf3 hf2 hro hC C F fd hm h K X Q hb a g; (first | lia | omega))) (by (clear hf3 hf2 hf1 hro hC C F fd hm h K X Q hb a g f; (first | lia | omega))), fun _ _ => trivial, List.Sublist.refl _, by walk_at "pl lf", by rw [List.length_range]; (clear hf3 hf2 hro hC C F fd hm h K X Q hb a g hf1; (first | lia | omega)), ?_, ?_⟩
  · intro C' hC' k hk
    have hk := List.mem_range.mp hk
    obtain ⟨c, hc⟩ : ∃ c, n[f + k]? = some c := ⟨_, List.getElem?_eq_getElem (by (clear hC' C' hf3 hf2 hro hC C F fd hm h K X Q hn hb a g hf1; (first | lia | omega)))⟩
    refine TAs.name (hC'.stL (by kernel_rfl)) ?_
    refine TIfs.one ?_
    repeat (walk_at "pl e")
    refine Item.str (j := f + k) (by (first | lia | omega)) ⟨by rw [if_neg (by (first | lia | omega))], by (first | lia | omega)⟩ hc ?_
    repeat (walk_at "pl e")
    refine ite_b (fun c1 => ?_) (fun c1 => ?_)
    · have c1 : c = 46 := by simpa using c1
      rw [hc, c1, if_pos (decide_eq_true rfl)]
      repeat (walk_at "pl e")
      exact ⟨rfl, by walk_at "pl lo", List.Sublist.refl _⟩
    · have c1 : ¬ c = 46 := by simpa using c1
      rw [hc, if_neg (by simpa using c1)]
      exact ⟨rfl, by walk_at "pl lo", List.Sublist.refl _⟩
  rw [filterMap_if (fun k : Nat => V.int ((f + k : Nat) : Int)) (fun k => decide (n[f + k]? = some 46))]
  have hmem : ∀ k, k ∈ (List.range (n.length - f)).filter (fun k => decide (n[f + k]? = some 46)) ↔ (k < n.length - f ∧ n[f + k]? = some 46) := fun k => by rw [List.mem_filter, List.mem_range, decide_eq_true_iff]
  have hll : ((List.range (n.length - f)).filter (fun k => decide (n[f + k]? = some 46))).length ≤ 1000 := Nat.le_trans (List.length_filter_le _ _) (by rw [List.length_range]; (clear hmem hf3 hf2 hro hC C F fd hm h K X Q hb a g hf1; (first | lia | omega)))
  generalize (List.range (n.length - f)).filter (fun k => decide (n[f + k]? = some 46)) = ks at hmem hll
  repeat (walk_at "pl e")
  refine ⟨by simp, ?_⟩
  refine Bin.add_list (.fz _) (.fz _) (by rw [List.length_map, List.length_singleton]; (clear hmem hf3 hf2 hf1 hro hC C F fd hm h K X Q hn hb a g f n; (first | lia | omega))) ?_
  rw [show (ks.map fun k : Nat => V.int ((f + k : Nat) : Int)) ++ [V.int (-1)] = (ks.map (fun k : Nat => ((f + k : Nat) : Int)) ++ [-1]).map .int from by rw [List.map_append, List.map_map]; rfl]
  refine TArgs.nil ?_
  refine call_max_ints hC.calm (.fz _) (by simp) fun m hm hall => ?_
  repeat (walk_at "pl e")
  refine call_len_txt (by (first | lia | omega)) ?_
  repeat (walk_at "pl e")
  refine Bin.mod_int (by (first | lia | omega)) ?_
  have key : m.fmod ((n.length : Int) + 1) = (atN n : Nat) := by
    rcases List.mem_append.mp hm with e | e
    · obtain ⟨k, hk, rfl⟩ := List.mem_map.mp e
      obtain ⟨h1, h2⟩ := (hmem k).mp hk
      rw [Int.fmod_eq_emod_of_nonneg _ (by (first | lia | omega)), Int.emod_eq_of_lt (by (first | lia | omega)) (by (first | lia | omega))]
      rw [atN_some hf3 (Nat.le_add_right f k) h2 fun i hi hd => ?_]
      have hil := (List.getElem?_eq_some_iff.mp hd).1
      have := hall _ (List.mem_append_left _ (List.mem_map_of_mem ((hmem (i - f)).mpr ⟨by (first | lia | omega), by rw [show f + (i - f) = i from by (first | lia | omega)]; exact hd⟩)))
      (first | lia | omega)
    · rw [List.mem_singleton.mp e, fmod_neg1]
      rw [atN_none hf2 fun i hi hd => ?_]
      have hil := (List.getElem?_eq_some_iff.mp hd).1
      have := hall _ (List.mem_append_left _ (List.mem_map_of_mem ((hmem (i - f)).mpr ⟨by (first | lia | omega), by rw [show f + (i - f) = i from by (first | lia | omega)]; exact hd⟩)))
      rw [List.mem_singleton.mp e] at this
      (first | lia | omega)
  rw [key]
  exact h
theorem lrow_ok {g : Gd} {a : Addr} (hf : Fn g P12 33 a) (hb : Free g BI) {k : Nat} {ns : List (List Nat)} (hn : ns.length ≤ 1000) {Q : V → Led → Prop} {X : XL} {K : Led}
    (h : Q (rowW (rowR k ns)) K) : CallT g (0 + 1) (.ref a) [.int (k : Int), .lst (ns.map (.txt false))] Q X K := by
  obtain ⟨hm, fd, F⟩ := hf
  refine CallT.def_ F (by rw [pars33]; rfl) fun C hC hro => ?_
  rw [pars33]
  refine TSs.le (start2 (by decide)) ?_
  have hl : (ns.map (V.txt false)).length = ns.length := List.length_map ..
  refine TSs.cons ?_
  repeat (walk_at "pl e")
  refine ⟨by simp, ?_⟩
  refine Bin.add_list (.fz _) (.fz _) (by rw [List.length_singleton]; (clear hro hC C F fd hm h K X Q k hb a g; (first | lia | omega))) ?_
  repeat (walk_at "pl e")
  refine Item.listN (.fz _) (j := 0) (u := .txt false (ns.headD [])) (by rw [List.length_append, List.length_singleton]; (clear hro hC C F fd hm h K X Q k hb a g; (first | lia | omega))) (by cases ns <;> rfl) ?_
  repeat (walk_at "pl e")
  refine ⟨by simp, ?_⟩
  repeat (walk_at "pl e")
  refine ⟨by simp, ?_⟩
  refine TE.listcompF hC (by walk_at "pl comp") ?_
  repeat (walk_at "pl e")
  refine Slc.list (.fz _) (by (clear hro hC C F fd hm h K X Q k hb a g; (first | lia | omega))) (by decide) ?_
  rw [pick_plain, sl_fromL _ 1 1 rfl, List.drop_one, ← List.map_tail]
  refine ⟨List Nat, ns.tail, .txt false, fun n => some (pairV (1, n)), [], K, _, Walk.lst, fun _ _ => trivial, List.Sublist.refl _, by walk_at "pl lf", by rw [List.length_tail]; (clear hro hC C F fd hm h K X Q k hb a g hl; (first | lia | omega)), ?_, ?_⟩
  · intro C' hC' n hn'
    refine TAs.name (hC'.stL (by kernel_rfl)) ?_
    refine TIfs.nil ?_
    refine ite_t rfl ?_
    repeat (walk_at "pl e")
    refine ⟨by simp, ?_⟩
    exact ⟨rfl, by walk_at "pl lo", List.Sublist.refl _⟩
  rw [filterMap_some]
  refine Bin.add_list (.fz _) (.fz _) (by rw [List.length_map, List.length_tail]; simp only [List.length_singleton]; (clear hro hC C F fd hm h K X Q k hb a g hl; (first | lia | omega))) ?_
  unfold rowR rowW at h
  rw [List.map_cons, List.map_map] at h
  exact h
end PL

end
section
open PySem PySem.Calls PyProof.Rows
set_option Elab.async false
set_option linter.unusedVariables false
set_option linter.unusedSimpArgs false
set_option maxRecDepth 100000
set_option maxHeartbeats 4000000

namespace PL

/-- names in a row that is being made plain -/
structure Pl (r : Nat) (ns0 ns : List (List Nat)) : Prop where
  eq : normC r ns = normC r ns0
  ok : ∀ n ∈ ns, n ≠ [] ∧ n ≠ [46] ∧ 47 ∉ n
  len : ns.length ≤ 1000
/-- the places to strike out -/
noncomputable def pairsOf (ns : List (List Nat)) : List Nat := ((List.range (ns.length - 1)).filter fun k => decide (ns[k]? ≠ some dd ∧ ns[k + 1]? = some dd)).take 1
theorem pairs_mem {ns : List (List Nat)} {k : Nat} (h : k ∈ pairsOf ns) : ns[k]? ≠ some dd ∧ ns[k + 1]? = some dd := by
  have := (List.mem_filter.mp (List.mem_of_mem_take h)).2
  simpa using this
theorem pairs_none {ns : List (List Nat)} (h : pairsOf ns = []) (k : Nat) (hk : ns[k + 1]? = some dd) : ns[k]? = some dd := by
  have hl := (List.getElem?_eq_some_iff.mp hk).1
  refine Classical.byContradiction fun q => ?_
  unfold pairsOf at h
  rw [List.take_eq_nil_iff] at h
  rcases h with h | h
  · exact absurd h (by decide)
  · have : k ∈ (List.range (ns.length - 1)).filter fun k => decide (ns[k]? ≠ some dd ∧ ns[k + 1]? = some dd) := List.mem_filter.mpr ⟨List.mem_range.mpr (by (clear h q hk; (first | lia | omega))), decide_eq_true ⟨q, hk⟩⟩
    rw [h] at this
    cases this
theorem pairs_len (ns : List (List Nat)) : (pairsOf ns).length ≤ 1 := List.length_take_le ..
theorem strike_len {ns : List (List Nat)} {k : Nat} (h : k + 1 < ns.length) : (strike ns k).length + 2 = ns.length := by
  unfold strike
  rw [List.length_append, List.length_take, List.length_drop]
  (first | lia | omega)
theorem Pl.str {r : Nat} {ns0 ns : List (List Nat)} (h : Pl r ns0 ns) {k : Nat} (hk : k ∈ pairsOf ns) : Pl r ns0 (strike ns k) := by
  obtain ⟨h1, h2⟩ := pairs_mem hk
  have hl := (List.getElem?_eq_some_iff.mp h2).1
  have hk1 : ns[k]? = some ns[k] := List.getElem?_eq_getElem (by (clear h2 h1 hk h ns0 r; (first | lia | omega)))
  obtain ⟨a, b, c⟩ := h.ok _ (List.mem_of_getElem? hk1)
  refine ⟨(norm_strike hk1 h2 ⟨a, b, fun q => h1 (by rw [hk1, q]), c⟩).trans h.eq, fun n hn => ?_, by have := strike_len hl; have := h.len; (clear c b a hk1 hl h2 h1 hk h ns0 r; (first | lia | omega))⟩
  rcases List.mem_append.mp hn with e | e
  · exact h.ok n (List.mem_of_mem_take e)
  · exact h.ok n (List.mem_of_mem_drop e)
theorem Pl.fold {r : Nat} {ns0 ns : List (List Nat)} (h : Pl r ns0 ns) : Pl r ns0 ((pairsOf ns).foldl strike ns) ∧ 2 * ((pairsOf ns).foldl strike ns).length + (if pairsOf ns = [] then 0 else 1) < 2 * ns.length + 1 := by
  have hl := pairs_len ns
  match e : pairsOf ns with
  | [] => exact ⟨h, by simp⟩
  | [k] =>
    have hk : k ∈ pairsOf ns := by rw [e]; simp
    have := strike_len (List.getElem?_eq_some_iff.mp (pairs_mem hk).2).1
    exact ⟨h.str hk, by simp; (clear hk e hl h ns0 r; (first | lia | omega))⟩
  | _ :: _ :: _ => rw [e] at hl; simp at hl
theorem Pl.tail {r : Nat} (hr : 0 < r) {ns0 ns : List (List Nat)} (h : Pl r ns0 ns) (h0 : ns[0]? = some dd) : Pl r ns0 ns.tail := by
  cases ns with
  | nil => cases h0
  | cons n ns =>
    obtain rfl : n = dd := by simpa using h0
    exact ⟨(norm_dd hr ns).symm.trans h.eq, fun n hn => h.ok n (List.mem_cons_of_mem _ hn), by have := h.len; simp at this ⊢; (clear h0 h ns0 hr r; (first | lia | omega))⟩
theorem names_pl {r : Row} (hr : Small r) (hg : GoodR r) (k : Nat) : Pl k (namesR r) (namesR r) :=
  ⟨rfl, fun n hn => comps_ok (spR r) n (by rw [comps_good hg]; exact hn), Nat.le_trans (List.length_filter_le _ _) (by rw [List.length_map]; exact hr.len)⟩
theorem TArgs.le {C : Cx} {X : XP} {es : List Expr} {Q : List V → St → Prop} {σ σ' : St} (k : Le σ' σ) (h : TArgs C es Q X σ') : TArgs C es Q X σ := fun pos z₀ => (h pos z₀).weaken k.loc k.led
theorem plain_ok {g : Gd} {a a33 a34 : Addr} (hf : Fn g P12 35 a) (h33 : Fn g P12 33 a33) (h34 : Fn g P12 34 a34) (hb : Free g BI) {r : Row} (hr : Small r) (hg : GoodR r) {Q : V → Led → Prop} {X : XL} {K : Led}
    (h : ∀ r', GoodR r' → spR r' = normS (spR r) → Q (rowW r') K) : CallT g (1 + 1) (.ref a) [rowW r] Q X K := by
  obtain ⟨hm, fd, F⟩ := hf
  obtain ⟨⟨k, n⟩, t, rfl⟩ : ∃ p t, r = p :: t := by
    cases r with
    | nil => exact absurd rfl hg.ne
    | cons p t => exact ⟨p, t, rfl⟩
  refine CallT.def_ F (by rw [pars35]; rfl) fun C hC hro => ?_
  rw [pars35]
  refine TSs.le start1 ?_
  have hl := hr.len
  have lr := row_len ((k, n) :: t)
  obtain ⟨root, hroot⟩ : ∃ root, root = if k < 3 then k else 1 := ⟨_, rfl⟩
  have hpl := names_pl hr hg root
  have hplain := fun fs => plain_good (fs := fs) hg hroot
  obtain ⟨ns0, hns0⟩ : ∃ ns0, ns0 = namesR ((k, n) :: t) := ⟨_, rfl⟩
  rw [← hns0] at hpl hplain
  refine TSs.cons ?_
  refine TS.assign (by walk_at "pl st") ?_
  refine TE.cut (P := fun v σ' => v = .int (root : Int) ∧ Le ⟨[("one", rowW ((k, n) :: t))], K⟩ σ') ?_ ?_
  · repeat (walk_at "pl e")
    refine Item.listN (.fz _) (j := 0) (by (clear hns0 hpl hplain ns0 hroot hro hC C h hg hr F fd hm K X Q hb h34 h33 a34 a33 a g root; (first | lia | omega))) (u := pairV (k, n)) rfl ?_
    repeat (walk_at "pl e")
    refine Item.tupN (j := 0) (by simp) rfl ?_
    repeat (walk_at "pl e")
    refine ite_b (fun c => ?_) (fun c => ?_)
    · have c : k < 3 := by have := of_decide_eq_true c; (clear c hns0 hpl hplain ns0 hroot lr hl hro hC C h hg hr F fd hm K X Q hb h34 h33 a34 a33 a g root t; (first | lia | omega))
      rw [if_pos c] at hroot
      repeat (walk_at "pl e")
      refine Item.listN (.fz _) (j := 0) (by (first | lia | omega)) (u := pairV (k, n)) rfl ?_
      repeat (walk_at "pl e")
      refine Item.tupN (j := 0) (by simp) rfl ?_
      exact ⟨by rw [hroot], by walk_at "pl lo", List.Sublist.refl _⟩
    · have c : ¬ k < 3 := fun q => c (decide_eq_true (by (clear c hns0 hpl hplain ns0 hroot lr hl hro hC C h hg hr F fd hm K X Q hb h34 h33 a34 a33 a g root t; (first | lia | omega))))
      rw [if_neg c] at hroot
      repeat (walk_at "pl e")
      exact ⟨by rw [hroot]; rfl, by walk_at "pl lo", List.Sublist.refl _⟩
  rintro _ σ' ⟨rfl, hle⟩
  refine TSs.le hle.both ?_
  clear hle σ'
  refine TSs.cons ?_
  refine TS.assignC hC hro (by kernel_rfl) ?_
  refine TE.callG hC h34 (by kernel_rfl) (by kernel_rfl) ?_
  repeat (walk_at "pl e")
  refine CallV.fnI hC (lnames_ok h34 hb hr ?_) (by decide)
  rw [← hns0]
  clear hns0
  refine TSs.cons ?_
  repeat (walk_at "pl e")
  refine ⟨by simp, ?_⟩
  refine TSs.cons ?_
  refine TS.cut (P := fun fl σ' => fl = .next ∧ ∃ ns, Pl root ns0 ns ∧ pairsOf ns = [] ∧ Le ⟨[("root", .int (root : Int)), ("names", .lst (ns.map (.txt false)))], K⟩ σ') ?_ ?_
  · refine TS.while_ (fun m σ => ∃ ns ps, m = 2 * ns.length + (if ps = [] then 0 else 1) ∧ Pl root ns0 ns ∧ (ps = [] → pairsOf ns = []) ∧ Le ⟨[("root", .int (root : Int)), ("names", .lst (ns.map (.txt false))), ("pairs", .lst (ps.map fun n : Nat => .int (n : Int)))], K⟩ σ) (2 * ns0.length + 1) ⟨ns0, [0], rfl, hpl, by simp, by walk_at "pl lo", List.Sublist.refl _⟩ ?_
    rintro m σ ⟨ns, ps, rfl, hP, hno, hle⟩
    have hlen := hP.len
    have hlm : (ns.map (V.txt false)).length = ns.length := List.length_map ..
    refine TB.le hle ?_
    clear hle
    repeat (walk_at "pl e")
    refine ⟨by simp, ?_⟩
    refine Cmp.neL (.fz _) (.fz _) (EqRs.nats ps []) ?_
    refine ⟨_, rfl, ?_⟩
    refine ite_b (fun c => ?_) (fun c => ?_)
    rotate_left
    · have c : ps = [] := by simpa using c
      exact TSs.nil ⟨rfl, ns, hP, hno c, by walk_at "pl lo", List.Sublist.refl _⟩
    have c : ps ≠ [] := by simpa using c
    rw [if_neg c]
    refine TSs.cons ?_
    refine TS.assign (by walk_at "pl st") ?_
    refine TE.subsl ?_
    refine TE.listcompF hC (by walk_at "pl comp") ?_
    repeat (walk_at "pl e")
    refine call_len_list (.fz _) (by (first | lia | omega)) ?_
    rw [hlm]
    repeat (walk_at "pl e")
    refine call_range1 ?_
    have hup : upTo 0 (((ns.length : Int) - 1) - 0).toNat = (List.range (ns.length - 1)).map fun k : Nat => V.int ((0 + k : Nat) : Int) := by
      rw [show (((ns.length : Int) - 1) - 0).toNat = ns.length - 1 from by (first | lia | omega)]
      exact upTo_map (ns.length - 1) 0
    refine ⟨Nat, List.range (ns.length - 1), fun k => .int ((0 + k : Nat) : Int), fun k => if decide (ns[k]? ≠ some dd ∧ ns[k + 1]? = some dd) = true then some (.int (k : Int)) else none, [("names", .lst (ns.map (.txt false)))], K, _, hup ▸ Walk.rng (small_range (by (first | lia | omega)) (by (first | lia | omega)) (by (first | lia | omega)) (by (first | lia | omega))), fun _ _ => trivial, List.Sublist.refl _, by walk_at "pl lf", by rw [List.length_range]; (first | lia | omega), ?_, ?_⟩
    · intro C' hC' k hk
      have hk := List.mem_range.mp hk
      obtain ⟨x, hx⟩ : ∃ c, ns[k]? = some c := ⟨_, List.getElem?_eq_getElem (by (first | lia | omega))⟩
      obtain ⟨y, hy⟩ : ∃ c, ns[k + 1]? = some c := ⟨_, List.getElem?_eq_getElem (by (first | lia | omega))⟩
      refine TAs.name (hC'.stL (by kernel_rfl)) ?_
      refine TIfs.one ?_
      rw [Nat.zero_add, hx, hy]
      repeat (walk_at "pl e")
      refine Item.listN (.fz _) (j := k) (u := .txt false x) (by (first | lia | omega)) (by rw [List.getElem?_map, hx]; rfl) ?_
      repeat (walk_at "pl e")
      refine ite_b (fun c1 => ?_) (fun c1 => ?_)
      · have c1 : x ≠ dd := by simpa using c1
        repeat (walk_at "pl e")
        refine Item.list (.fz _) (j := k + 1) (u := .txt false y) (by (first | lia | omega)) ⟨by rw [if_neg (by (first | lia | omega))]; (first | lia | omega), by (first | lia | omega)⟩ (by rw [List.getElem?_map, hy]; rfl) ?_
        repeat (walk_at "pl e")
        refine ite_b (fun c2 => ?_) (fun c2 => ?_)
        · have c2 : y = dd := by simpa using c2
          repeat (walk_at "pl e")
          refine ite_t rfl ?_
          repeat (walk_at "pl e")
          rw [if_pos (decide_eq_true ⟨fun q => c1 (Option.some.inj q), by rw [c2]⟩)]
          exact ⟨rfl, by walk_at "pl lo", List.Sublist.refl _⟩
        · have c2 : ¬ y = dd := by simpa using c2
          refine ite_f (by decide) ?_
          rw [if_neg (fun q => c2 (Option.some.inj (of_decide_eq_true q).2))]
          exact ⟨rfl, by walk_at "pl lo", List.Sublist.refl _⟩
      · have c1 : ¬ x ≠ dd := by simpa using c1
        refine ite_f (by decide) ?_
        rw [if_neg (fun q => c1 fun e => (of_decide_eq_true q).1 (by rw [e]))]
        exact ⟨rfl, by walk_at "pl lo", List.Sublist.refl _⟩
    rw [filterMap_if (fun k : Nat => V.int (k : Int)) (fun k => decide (ns[k]? ≠ some dd ∧ ns[k + 1]? = some dd))]
    repeat (walk_at "pl e")
    refine Slc.list (.fz _) (by rw [List.length_map]; exact Nat.le_trans (List.length_filter_le _ _) (by rw [List.length_range]; (first | lia | omega))) (by decide) ?_
    rw [pick_plain, sl_toL _ 1 1 rfl, ← List.map_take, show List.take 1 ((List.range (ns.length - 1)).filter fun k => decide (ns[k]? ≠ some dd ∧ ns[k + 1]? = some dd)) = pairsOf ns from rfl]
    refine TSs.le (σ' := ⟨[("root", .int (root : Int)), ("names", .lst (ns.map (.txt false))), ("pairs", .lst ((pairsOf ns).map fun n : Nat => .int (n : Int)))], K⟩) ⟨by walk_at "pl lo", List.Sublist.refl _⟩ ?_
    obtain ⟨hP2, hm2⟩ := hP.fold
    refine TSs.cons ?_
    refine TS.for_ hC.calm ?_
    repeat (walk_at "pl e")
    refine ⟨_, _, Walk.lst, fun i σ => Le ⟨[("root", .int (root : Int)), ("names", .lst ((((pairsOf ns).take i).foldl strike ns).map (.txt false))), ("pairs", .lst ((pairsOf ns).map fun n : Nat => .int (n : Int)))], K⟩ σ, Le.refl _, fun _ _ _ => trivial, ?_, ?_⟩
    · intro i u σ hu hle
      have hlp := pairs_len ns
      have hil := (List.getElem?_eq_some_iff.mp hu).1
      rw [List.length_map] at hil
      obtain rfl : i = 0 := by (first | lia | omega)
      rw [List.getElem?_map] at hu
      obtain ⟨p, hp, rfl⟩ : ∃ p : Nat, (pairsOf ns)[0]? = some p ∧ u = .int (p : Int) := by
        cases e : (pairsOf ns)[0]? with
        | none => rw [e] at hu; cases hu
        | some c => rw [e] at hu; cases hu; exact ⟨c, rfl, rfl⟩
      have nx : ((pairsOf ns).take (0 + 1)).foldl strike ns = ns.take p ++ ns.drop (p + 2) := by
        rw [List.take_add_one, hp]; rfl
      refine TAs.name (by walk_at "pl st") ?_
      refine TSs.le hle.both ?_
      rw [nx]
      clear hle nx hP2 hm2
      refine TSs.cons ?_
      refine TS.assignC hC hro (by kernel_rfl) ?_
      repeat (walk_at "pl e")
      refine Slc.list (.fz _) (by rw [List.take_zero, List.foldl_nil]; (first | lia | omega)) (by decide) ?_
      rw [pick_plain, sl_to]
      repeat (walk_at "pl e")
      refine Slc.list (.fz _) (by rw [List.take_zero, List.foldl_nil]; (first | lia | omega)) (by decide) ?_
      rw [pick_plain, sl_fromL _ _ (p + 2) (by (first | lia | omega)), List.take_zero, List.foldl_nil, ← List.map_take, ← List.map_drop]
      refine Bin.add_list (.fz _) (.fz _) (by rw [List.length_map, List.length_map, List.length_take, List.length_drop]; (first | lia | omega)) ?_
      rw [← List.map_append]
      refine TSs.nil ?_
      exact ⟨by walk_at "pl lo", List.Sublist.refl _⟩
    · intro σ hle
      rw [List.length_map, List.take_length] at hle
      refine TSs.nil (TSs.nil ?_)
      exact ⟨_, by (first | lia | omega), _, pairsOf ns, rfl, hP2, fun e => by rw [e]; exact e, hle⟩
  rintro _ σ' ⟨rfl, ns, hP, hno, hle⟩
  refine TSs.le hle ?_
  clear hle σ'
  replace hno := pairs_none hno
  refine TSs.cons ?_
  refine TS.cut (P := fun fl σ' => fl = .next ∧ ∃ fs, Pl root ns0 fs ∧ (∀ k : Nat, fs[k + 1]? = some dd → fs[k]? = some dd) ∧ (root = 0 ∨ fs[0]? ≠ some dd) ∧ Le ⟨[("root", .int (root : Int)), ("names", .lst (fs.map (.txt false)))], K⟩ σ') ?_ ?_
  · refine TS.while_ (fun m σ => ∃ fs, m = fs.length ∧ Pl root ns0 fs ∧ (∀ k : Nat, fs[k + 1]? = some dd → fs[k]? = some dd) ∧ Le ⟨[("root", .int (root : Int)), ("names", .lst (fs.map (.txt false)))], K⟩ σ) ns.length ⟨ns, rfl, hP, hno, Le.refl _⟩ ?_
    clear hno hP ns
    rintro m σ ⟨ns, rfl, hP, hno, hle⟩
    have hlen := hP.len
    have hlm : (ns.map (V.txt false)).length = ns.length := List.length_map ..
    refine TB.le hle ?_
    clear hle
    repeat (walk_at "pl e")
    refine ite_b (fun c => ?_) (fun c => ?_)
    rotate_left
    · have c : root = 0 := by
        rcases Nat.eq_zero_or_pos root with q | q
        · exact q
        · exact absurd (decide_eq_true (by (clear c hlm hlen hno hP σ hpl hplain ns0 lr hl hro hC C h hg hr F fd hm K X Q hb h34 h33 a34 a33 a g ns t n hroot k; (first | lia | omega)))) c
      refine ite_f (by decide) ?_
      exact TSs.nil ⟨rfl, ns, hP, hno, .inl c, Le.refl _⟩
    have c : 0 < root := by have := of_decide_eq_true c; (clear c hlm hlen hno hP σ hpl hplain ns0 lr hl hro hC C h hg hr F fd hm K X Q hb h34 h33 a34 a33 a g ns t n hroot k; (first | lia | omega))
    repeat (walk_at "pl e")
    refine Slc.list (.fz _) (by (first | lia | omega)) (by decide) ?_
    rw [pick_plain, sl_toL _ 1 1 rfl, ← List.map_take]
    repeat (walk_at "pl e")
    refine ⟨by simp, ?_⟩
    refine Cmp.eqL (.fz _) (.fz _) (EqRs.txts false (ns.take 1) [dd]) ?_
    refine ⟨_, rfl, ?_⟩
    have e1 : ns.take 1 = [dd] ↔ ns[0]? = some dd := by cases ns <;> simp
    refine ite_b (fun c1 => ?_) (fun c1 => ?_)
    · have c1 : ns[0]? = some dd := e1.mp (by simpa using c1)
      have hnp : 0 < ns.length := (List.getElem?_eq_some_iff.mp c1).1
      repeat (walk_at "pl e")
      refine ite_t rfl ?_
      refine TSs.cons ?_
      refine TS.assignC hC hro (by kernel_rfl) ?_
      repeat (walk_at "pl e")
      refine Slc.list (.fz _) (by (first | lia | omega)) (by decide) ?_
      rw [pick_plain, sl_fromL _ 1 1 rfl, List.drop_one, ← List.map_tail]
      refine TSs.nil ⟨ns.length - 1, by (first | lia | omega), ns.tail, by rw [List.length_tail], hP.tail c c1, fun i hi => ?_, by walk_at "pl lo", List.Sublist.refl _⟩
      rw [List.getElem?_tail] at hi ⊢
      exact hno _ hi
    · have c1 : ¬ ns[0]? = some dd := fun q => c1 (by simpa using e1.mpr q)
      refine ite_f (by decide) ?_
      exact TSs.nil ⟨rfl, ns, hP, hno, .inr c1, Le.refl _⟩
  clear hno hP ns
  rintro _ σ' ⟨rfl, fs, hP, hno, hend, hle⟩
  refine TSs.le hle ?_
  clear hle σ'
  have hlen := hP.len
  obtain ⟨g1, g2⟩ := hplain fs hP.eq hP.ok hno hend
  refine TSs.cons ?_
  refine TS.ret ?_
  refine TE.callG hC h33 (by kernel_rfl) (by kernel_rfl) ?_
  refine TArgs.consR rfl ?_
  walk_at "pl e"
  refine TArgs.consR rfl ?_
  refine TE.cut (P := fun v σ' => v = .lst ((if fs ≠ [] ∨ 0 < root then fs else [[46]]).map (.txt false)) ∧ Le ⟨[], K⟩ σ') ?_ ?_
  · refine TE.ifexp ?_
    repeat (walk_at "pl e")
    refine ⟨by simp, ?_⟩
    refine Cmp.neL (.fz _) (.fz _) (EqRs.txts false fs []) ?_
    refine ⟨_, rfl, ?_⟩
    refine ite_b (fun c => ?_) (fun c => ?_)
    · have c : fs ≠ [] := by simpa using c
      refine ite_t rfl ?_
      repeat (walk_at "pl e")
      exact ⟨by rw [if_pos (.inl c)], by walk_at "pl lo", List.Sublist.refl _⟩
    have c : fs = [] := by simpa using c
    repeat (walk_at "pl e")
    refine ite_b (fun c2 => ?_) (fun c2 => ?_)
    · have c2 : 0 < root := by have := of_decide_eq_true c2; (first | lia | omega)
      refine ite_t rfl ?_
      repeat (walk_at "pl e")
      exact ⟨by rw [if_pos (.inr c2)], by walk_at "pl lo", List.Sublist.refl _⟩
    · have c2 : ¬ 0 < root := fun q => c2 (decide_eq_true (by (first | lia | omega)))
      repeat (walk_at "pl e")
      refine ite_f (by decide) ?_
      repeat (walk_at "pl e")
      exact ⟨by simp, by rw [if_neg (by rintro (q | q); exact q c; exact c2 q)]; rfl, by walk_at "pl lo", List.Sublist.refl _⟩
  rintro _ σ' ⟨rfl, hle⟩
  refine TArgs.le hle ?_
  refine TArgs.nil ?_
  refine CallV.fnI hC (lrow_ok h33 hb ?_ ?_) (by decide)
  · split
    · exact hlen
    · simp
  exact h _ g1 g2
end PL

end
section
open PySem PySem.Calls PyProof.Rows
set_option Elab.async false
set_option linter.unusedVariables false
set_option linter.unusedSimpArgs false
set_option maxRecDepth 100000
set_option maxHeartbeats 4000000

namespace PL
structure Fs12 (g : Gd) (a10 a12 a15 a16 a17 a18 a20 a21 a22 a23 a24 a26 a27 a28 a29 a30 a31 a32 a33 a34 a35 a36 : Addr) : Prop where
  b : Free g BI
  f10 : Fn g P12 10 a10
  f12 : Fn g P12 12 a12
  f15 : Fn g P12 15 a15
  f16 : FnS g P12 16 a16
  f17 : Fn g P12 17 a17
  f18 : Fn g P12 18 a18
  f20 : Fn g P12 20 a20
  f21 : Fn g P12 21 a21
  f22 : Fn g P12 22 a22
  f23 : Fn g P12 23 a23
  f24 : Fn g P12 24 a24
  f26 : Fn g P12 26 a26
  f27 : Fn g P12 27 a27
  f28 : Fn g P12 28 a28
  f29 : Fn g P12 29 a29
  f30 : Fn g P12 30 a30
  f31 : Fn g P12 31 a31
  f32 : Fn g P12 32 a32
  f33 : Fn g P12 33 a33
  f34 : Fn g P12 34 a34
  f35 : Fn g P12 35 a35
  f36 : Fn g P12 36 a36

noncomputable def stepS (k : Int) (c : Nat) (p q : List Nat) : List (List Nat) :=
  if k = 0 then [jn1 p q] else if k = 1 then [dirS p, baseS p] else if k = 2 then [jn1 (dirS p) (baseS q)]
  else if k = 3 then [p.take (extN p) ++ q.drop (extN q)] else if k = 4 then [normS p]
  else if k = 5 then (if headIs 47 p = headIs 47 q then [cpS [p, q]] else []) else [p ++ [c]]
theorem step_ok {g : Gd} {a10 a12 a15 a16 a17 a18 a20 a21 a22 a23 a24 a26 a27 a28 a29 a30 a31 a32 a33 a34 a35 a36 : Addr} (fs : Fs12 g a10 a12 a15 a16 a17 a18 a20 a21 a22 a23 a24 a26 a27 a28 a29 a30 a31 a32 a33 a34 a35 a36) {x : Int} {o : Bool} {p q : List Nat} (hp : p.length ≤ 12) (hq : q.length ≤ 12) {Q : V → Led → Prop} {X : XL} {K : Led}
    (h : ∀ H', K.Sublist H' → Q (.lst ((stepS (x.fmod 8) (sgn (x.fdiv 8)) p q).map (.txt o))) H') : CallT g (3 + 1) (.ref a28) [.int x, .txt o p, .txt o q, .bool o] Q X K := by
  have hb := fs.b
  obtain ⟨hm, fd, F⟩ := fs.f28
  refine CallT.defX F (by rw [pars28]; rfl) fun C hC hro hOwn => ?_
  rw [pars28]
  refine TSs.le (start4 (by decide) (by decide) (by decide) (by decide) (by decide) (by decide)) ?_
  obtain ⟨k, hk⟩ : ∃ k, x.fmod 8 = k := ⟨_, rfl⟩
  rw [hk] at h
  unfold stepS at h
  refine TSs.cons ?_
  repeat (walk_at "pl e")
  refine Bin.mod_int (by decide) ?_
  rw [hk]
  repeat (walk_at "pl e")
  refine ite_b (fun c => ?_) (fun c => ?_)
  · have c : k = 0 := by simpa using c
    rw [if_pos c] at h
    repeat (walk_at "pl e")
    refine TE.callS hC fs.f16 (by kernel_rfl) (by kernel_rfl) ?_
    repeat (walk_at "pl e")
    refine CallV.fnI hC (join_ok fs.f16 fs.f10 fs.f15 hb (bs := [q]) (by simp [sumL]; (first | lia | omega)) ?_) (by decide)
    refine TArgs.nil ⟨by simp, ?_⟩
    exact h _ (List.Sublist.refl _)
  have c : ¬ k = 0 := by simpa using c
  rw [if_neg c] at h
  refine TSs.nil ?_
  refine TSs.cons ?_
  repeat (walk_at "pl e")
  refine Bin.mod_int (by decide) ?_
  rw [hk]
  repeat (walk_at "pl e")
  refine ite_b (fun c => ?_) (fun c => ?_)
  · have c : k = 1 := by simpa using c
    rw [if_pos c] at h
    refine TSs.cons ?_
    refine TS.assignTo ?_
    refine TE.callG hC fs.f17 (by kernel_rfl) (by kernel_rfl) ?_
    repeat (walk_at "pl e")
    refine CallV.fnI hC (split_ok fs.f17 fs.f10 fs.f15 hb (by (first | lia | omega)) ?_) (by decide)
    refine TAs.tuple hC.calm rfl ?_
    refine TIn.cons (TAs.name (by walk_at "pl st") ?_) rfl
    refine TIn.cons (TAs.name (by walk_at "pl st") ?_) rfl
    refine TIn.nil ?_
    repeat (walk_at "pl e")
    refine ⟨by simp, ?_⟩
    exact h _ (List.Sublist.refl _)
  have c : ¬ k = 1 := by simpa using c
  rw [if_neg c] at h
  refine TSs.nil ?_
  refine TSs.cons ?_
  repeat (walk_at "pl e")
  refine Bin.mod_int (by decide) ?_
  rw [hk]
  repeat (walk_at "pl e")
  refine ite_b (fun c => ?_) (fun c => ?_)
  · have c : k = 2 := by simpa using c
    rw [if_pos c] at h
    have hd := dir_base_len p
    have hd2 := dir_base_len q
    repeat (walk_at "pl e")
    refine TE.callS hC fs.f16 (by kernel_rfl) (by kernel_rfl) ?_
    refine TArgs.consR rfl ?_
    refine TE.callG hC fs.f22 (by kernel_rfl) (by kernel_rfl) ?_
    repeat (walk_at "pl e")
    refine CallV.fnI hC (dirname_ok fs.f22 fs.f10 fs.f15 hb (by (first | lia | omega)) ?_) (by decide)
    refine TArgs.consR rfl ?_
    refine TE.callG hC fs.f21 (by kernel_rfl) (by kernel_rfl) ?_
    repeat (walk_at "pl e")
    refine CallV.fnI hC (basename_ok fs.f21 fs.f10 fs.f15 hb (by (first | lia | omega)) ?_) (by decide)
    refine TArgs.nil ?_
    refine CallV.fnI hC (join_ok fs.f16 fs.f10 fs.f15 hb (bs := [baseS q]) (by simp [sumL]; (first | lia | omega)) ?_) (by decide)
    refine TArgs.nil ⟨by simp, ?_⟩
    exact h _ (List.Sublist.refl _)
  have c : ¬ k = 2 := by simpa using c
  rw [if_neg c] at h
  refine TSs.nil ?_
  refine TSs.cons ?_
  repeat (walk_at "pl e")
  refine Bin.mod_int (by decide) ?_
  rw [hk]
  repeat (walk_at "pl e")
  refine ite_b (fun c => ?_) (fun c => ?_)
  · have c : k = 3 := by simpa using c
    rw [if_pos c] at h
    repeat (walk_at "pl e")
    refine TE.callG hC fs.f18 (by kernel_rfl) (by kernel_rfl) ?_
    repeat (walk_at "pl e")
    refine CallV.fnI hC (splitext_ok fs.f18 fs.f10 fs.f12 hb (by (first | lia | omega)) ?_) (by decide)
    repeat (walk_at "pl e")
    refine Item.tupN (j := 0) (by simp) rfl ?_
    repeat (walk_at "pl e")
    refine TE.callG hC fs.f18 (by kernel_rfl) (by kernel_rfl) ?_
    repeat (walk_at "pl e")
    refine CallV.fnI hC (splitext_ok fs.f18 fs.f10 fs.f12 hb (by (first | lia | omega)) ?_) (by decide)
    repeat (walk_at "pl e")
    refine Item.tupN (j := 1) (by simp) rfl ?_
    refine Bin.add_txt (by rw [List.length_take, List.length_drop]; (first | lia | omega)) ?_
    refine TArgs.nil ⟨by simp, ?_⟩
    exact h _ (List.Sublist.refl _)
  have c : ¬ k = 3 := by simpa using c
  rw [if_neg c] at h
  refine TSs.nil ?_
  refine TSs.cons ?_
  repeat (walk_at "pl e")
  refine Bin.mod_int (by decide) ?_
  rw [hk]
  repeat (walk_at "pl e")
  refine ite_b (fun c => ?_) (fun c => ?_)
  · have c : k = 4 := by simpa using c
    rw [if_pos c] at h
    repeat (walk_at "pl e")
    refine TE.callG hC fs.f23 (by kernel_rfl) (by kernel_rfl) ?_
    repeat (walk_at "pl e")
    refine CallV.fnI hC (normpath_ok fs.f23 fs.f10 fs.f20 hb (by (first | lia | omega)) fun H1 hH1 => ?_) (by decide)
    refine TArgs.nil ⟨by simp, ?_⟩
    exact h _ hH1
  have c : ¬ k = 4 := by simpa using c
  rw [if_neg c] at h
  refine TSs.nil ?_
  refine TSs.cons ?_
  repeat (walk_at "pl e")
  refine Bin.mod_int (by decide) ?_
  rw [hk]
  repeat (walk_at "pl e")
  refine ite_b (fun c => ?_) (fun c => ?_)
  · have c : k = 5 := by simpa using c
    rw [if_pos c] at h
    refine TSs.cons ?_
    refine TS.try_ hOwn ?_
    refine TSs.cons ?_
    repeat (walk_at "pl e")
    refine TE.callG hC fs.f24 (by kernel_rfl) (by kernel_rfl) ?_
    repeat (walk_at "pl e")
    refine ⟨by simp, ?_⟩
    repeat (walk_at "pl e")
    refine CallV.fnI hC (commonpath_ok fs.f24 fs.f10 hb (ps := [p, q]) (by simp) (by simp) (by simp; (first | lia | omega)) (fun hs H1 hH1 => ?_) (fun x1 x2 H1 hH1 => ?_)) (by decide)
    · refine TArgs.nil ⟨by simp, ?_⟩
      have e : headIs 47 q = headIs 47 p := hs q (by simp)
      rw [if_pos e.symm] at h
      exact h _ hH1
    · refine ⟨_, _, spec_VE, fun a => hC.nameMk (by kernel_rfl) hb (by decide +kernel) BI_VE a _, ?_⟩
      rw [if_pos rfl]
      intro a
      have e : ¬ headIs 47 p = headIs 47 q := by
        intro e
        obtain ⟨x, hx, e1⟩ := x1
        obtain ⟨y, hy, e2⟩ := x2
        simp only [List.mem_cons, List.not_mem_nil, or_false] at hx hy
        rcases hx with rfl | rfl <;> rcases hy with rfl | rfl <;> simp_all
      rw [if_neg e] at h
      refine TSs.cons ?_
      refine TS.ret ?_
      refine TE.listF ?_
      refine TArgs.nil ⟨by simp, ?_⟩
      exact h _ hH1
  have c : ¬ k = 5 := by simpa using c
  rw [if_neg c] at h
  refine TSs.nil ?_
  have hsg := sgn_lt (x.fdiv 8)
  refine TSs.cons ?_
  repeat (walk_at "pl e")
  refine TE.callG hC fs.f26 (by kernel_rfl) (by kernel_rfl) ?_
  refine TArgs.consR rfl ?_
  refine TE.callG hC fs.f27 (by kernel_rfl) (by kernel_rfl) ?_
  repeat (walk_at "pl e")
  refine Bin.fdiv_int (by decide) (PyProof.noPylong_of_log2 (by decide +kernel)) ?_
  refine TArgs.nil ?_
  refine CallV.fnI hC (sign_ok fs.f27 hb ?_) (by decide)
  repeat (walk_at "pl e")
  refine CallV.fnI hC (kind_ok fs.f26 hb (by simp) (by simpa using hsg) ?_) (by decide)
  refine Bin.add_txt (by rw [List.length_singleton]; (first | lia | omega)) ?_
  refine TArgs.nil ⟨by simp, ?_⟩
  exact h _ (List.Sublist.refl _)
end PL

end
section
open PySem PySem.Calls PyProof.Rows
set_option Elab.async false
set_option linter.unusedVariables false
set_option linter.unusedSimpArgs false
set_option maxRecDepth 100000
set_option maxHeartbeats 4000000

namespace PL

theorem len_counts : ∀ (t : Row), (∀ q ∈ t, 0 < q.1) → t.length ≤ (spR t).length
  | [], _ => Nat.zero_le _
  | p :: t, h => by
    have ih := len_counts t fun q hq => h q (List.mem_cons_of_mem _ hq)
    have h1 := h p (by simp)
    rw [spR_cons, List.length_append, List.length_cons]
    unfold pc
    rw [List.length_append, List.length_replicate]
    (clear h; (first | lia | omega))
theorem good_small {r : Row} (h : GoodR r) (hl : (spR r).length ≤ 900) : Small r := by
  refine ⟨?_, by (clear h; (first | lia | omega))⟩
  cases r with
  | nil => exact absurd rfl h.ne
  | cons p t =>
    have := len_counts t h.cnt
    rw [spR_cons, List.length_append] at hl
    rw [List.length_cons]
    (clear h; (first | lia | omega))
theorem dirS_mem {l : List Nat} {c : Nat} (h : c ∈ dirS l) : c ∈ l := by
  unfold dirS at h
  split at h
  · exact List.mem_of_mem_take (mem_rstripS h)
  · exact List.mem_of_mem_take h
theorem tail_one {n : List Nat} (h : 47 ∉ n) : GoodR [(0, n)] ∧ spR [(0, n)] = n := ⟨good_one h, by rw [spR_one]; rfl⟩
theorem pfx_ge : ∀ (a b : List (List Nat)) (k : Nat), k ≤ a.length → a.take k = b.take k → k ≤ (pfx a b).length
  | a, b, 0, _, _ => Nat.zero_le _
  | [], b, k + 1, h, _ => by simp at h
  | x :: a, [], k + 1, _, h => by simp at h
  | x :: a, y :: b, k + 1, h, e => by
    simp only [List.take_succ_cons, List.cons.injEq] at e
    obtain ⟨rfl, e⟩ := e
    have := pfx_ge a b k (by simpa using h) e
    rw [show pfx (x :: a) (x :: b) = x :: pfx a b from if_pos rfl, List.length_cons]
    (clear e h x; (first | lia | omega))
theorem pfx_both (a b : List (List Nat)) : pfx a b = a.take (pfx a b).length ∧ pfx a b = b.take (pfx a b).length ∧ (pfx a b).length ≤ a.length := by
  have key : ∀ a b : List (List Nat), pfx a b = a.take (pfx a b).length ∧ (pfx a b).length ≤ a.length := fun a b => by
    obtain ⟨k, hk⟩ := pfx_len a b
    rw [hk]
    refine ⟨by rw [List.length_take, ← List.take_eq_take_min], by rw [List.length_take]; (first | lia | omega)⟩
  refine ⟨(key a b).1, ?_, (key a b).2⟩
  rw [pfx_comm a b]
  exact (key b a).1
theorem sign_good {a : Row} {k c : Nat} {n : List Nat} (h : GoodR (a ++ [(k, n)])) :
    (c ≠ 47 → GoodR (a ++ [(k, n ++ [c])]) ∧ spR (a ++ [(k, n ++ [c])]) = spR (a ++ [(k, n)]) ++ [c]) ∧
    (c = 47 → n = [] → GoodR (a ++ [(k + 1, [])]) ∧ spR (a ++ [(k + 1, [])]) = spR (a ++ [(k, n)]) ++ [c]) ∧
    (c = 47 → n ≠ [] → GoodR (a ++ [(k, n)] ++ [(1, [])]) ∧ spR (a ++ [(k, n)] ++ [(1, [])]) = spR (a ++ [(k, n)]) ++ [c]) := by
  obtain ⟨h1, h2⟩ := good_snoc.mp h
  refine ⟨fun hc => ⟨good_snoc.mpr ⟨h1, ?_⟩, ?_⟩, fun hc hn => ⟨good_snoc.mpr ⟨h1.imp id fun ⟨x, _, z⟩ => ⟨x, Nat.succ_pos _, z⟩, by simp⟩, ?_⟩, fun hc hn => ⟨good_snoc.mpr ⟨.inr ⟨h, Nat.one_pos, ?_⟩, by simp⟩, ?_⟩⟩
  · rw [List.mem_append, List.mem_singleton]; rintro (q | q)
    · exact h2 q
    · exact hc q.symm
  · rw [spR_app, spR_app, spR_one, spR_one]; simp [pc]
  · subst hc hn
    rw [spR_app, spR_app, spR_one, spR_one]; simp [pc, List.replicate_succ']
  · intro p hp
    rcases List.mem_append.mp hp with e | e
    · rcases h1 with rfl | ⟨_, _, z⟩
      · cases e
      · exact z p e
    · rw [List.mem_singleton.mp e]; exact hn
  · subst hc
    rw [spR_app (a ++ [(k, n)]), spR_one]; simp [pc]
theorem twin_ok {g : Gd} {a10 a12 a15 a16 a17 a18 a20 a21 a22 a23 a24 a26 a27 a28 a29 a30 a31 a32 a33 a34 a35 a36 : Addr} (fs : Fs12 g a10 a12 a15 a16 a17 a18 a20 a21 a22 a23 a24 a26 a27 a28 a29 a30 a31 a32 a33 a34 a35 a36) {x : Int} {r s : Row} (gr : GoodR r) (gs : GoodR s) (hr : (spR r).length ≤ 12) (hs : (spR s).length ≤ 12) (hc : ∀ c ∈ spR r, c < 256) {Q : V → Led → Prop} {X : XL} {K : Led}
    (h : ∀ rs : List Row, (∀ r ∈ rs, GoodR r) → rs.map spR = stepS (x.fmod 8) (sgn (x.fdiv 8)) (spR r) (spR s) → Q (.lst (rs.map rowW)) K) : CallT g (2 + 1) (.ref a36) [.int x, rowW r, rowW s] Q X K := by
  have hb := fs.b
  obtain ⟨hm, fd, F⟩ := fs.f36
  have mr := good_small gr (by (clear F fd hm hb h K X Q hc hs gs gr x fs a36 a35 a34 a33 a32 a31 a30 a29 a28 a27 a26 a24 a23 a22 a21 a20 a18 a17 a16 a15 a12 a10 g s; (first | lia | omega)))
  have ms := good_small gs (by (clear mr F fd hm hb h K X Q hc hr gs gr x fs a36 a35 a34 a33 a32 a31 a30 a29 a28 a27 a26 a24 a23 a22 a21 a20 a18 a17 a16 a15 a12 a10 g r; (first | lia | omega)))
  refine CallT.def_ F (by rw [pars36]; rfl) fun C hC hro => ?_
  rw [pars36]
  refine TSs.le (start3 (by decide) (by decide) (by decide)) ?_
  obtain ⟨k, hk⟩ : ∃ k, x.fmod 8 = k := ⟨_, rfl⟩
  rw [hk] at h
  unfold stepS at h
  obtain ⟨ar, kr, nr, er⟩ := gr.snoc
  obtain ⟨as_, ks, ns, es⟩ := gs.snoc
  have lr := row_len r
  have ls := row_len s
  have hlr := mr.len
  have hls := ms.len
  have lr1 : r.length = ar.length + 1 := by rw [er, List.length_append]; rfl
  have ls1 : s.length = as_.length + 1 := by rw [es, List.length_append]; rfl
  have zr : (r.map pairV)[ar.length]? = some (pairV (kr, nr)) := row_at (by rw [er]; exact List.getElem?_concat_length)
  have zs : (s.map pairV)[as_.length]? = some (pairV (ks, ns)) := row_at (by rw [es]; exact List.getElem?_concat_length)
  have fr : 47 ∉ nr := gr.free (kr, nr) (by rw [er]; simp)
  have fs_ : 47 ∉ ns := gs.free (ks, ns) (by rw [es]; simp)
  have br : baseS (spR r) = nr := by rw [er] at gr ⊢; exact base_good gr
  have bs : baseS (spR s) = ns := by rw [es] at gs ⊢; exact base_good gs
  have dr : GoodR (headR r) ∧ dirS (spR r) = spR (headR r) := by rw [er] at gr ⊢; exact dir_good gr
  have hbr := dir_base_len (spR r)
  have hbs := dir_base_len (spR s)
  rw [br] at hbr
  rw [bs] at hbs
  obtain ⟨tg, ts⟩ := tail_one fs_
  obtain ⟨ug, us⟩ := tail_one fr
  -- join
  refine TSs.cons ?_
  repeat (walk_at "pl e")
  refine Bin.mod_int (by decide) ?_
  rw [hk]
  repeat (walk_at "pl e")
  refine ite_b (fun c => ?_) (fun c => ?_)
  · have c : k = 0 := by simpa using c
    rw [if_pos c] at h
    obtain ⟨j1, j2⟩ := join_good gr gs
    repeat (walk_at "pl e")
    refine TE.callG hC fs.f30 (by kernel_rfl) (by kernel_rfl) ?_
    repeat (walk_at "pl e")
    refine CallV.fnI hC (lawjoin_ok fs.f30 hb mr ms hc gr.ne gs.ne ?_) (by decide)
    refine TArgs.nil ⟨by simp, ?_⟩
    exact h [joinR r s] (by simpa using j1) (by rw [← j2]; rfl)
  have c : ¬ k = 0 := by simpa using c
  rw [if_neg c] at h
  refine TSs.nil ?_
  -- head and tail
  refine TSs.cons ?_
  repeat (walk_at "pl e")
  refine Bin.mod_int (by decide) ?_
  rw [hk]
  repeat (walk_at "pl e")
  refine ite_b (fun c => ?_) (fun c => ?_)
  · have c : k = 1 := by simpa using c
    rw [if_pos c] at h
    repeat (walk_at "pl e")
    refine TE.callG hC fs.f31 (by kernel_rfl) (by kernel_rfl) ?_
    repeat (walk_at "pl e")
    refine CallV.fnI hC (head_ok fs.f31 hb mr gr.ne ?_) (by decide)
    repeat (walk_at "pl e")
    refine Item.listZ (.fz _) (by (first | lia | omega)) (lr.trans lr1) zr ?_
    repeat (walk_at "pl e")
    refine Item.tupN (j := 1) (by simp) rfl ?_
    repeat (walk_at "pl e")
    refine ⟨by simp, ?_⟩
    repeat (walk_at "pl e")
    refine ⟨by simp, ?_⟩
    repeat (walk_at "pl e")
    refine ⟨by simp, ?_⟩
    exact h [headR r, [(0, nr)]] (by simpa using ⟨dr.1, ug⟩) (by rw [dr.2, br, ← us]; simp [us])
  have c : ¬ k = 1 := by simpa using c
  rw [if_neg c] at h
  refine TSs.nil ?_
  -- one's head, another's tail
  refine TSs.cons ?_
  repeat (walk_at "pl e")
  refine Bin.mod_int (by decide) ?_
  rw [hk]
  repeat (walk_at "pl e")
  refine ite_b (fun c => ?_) (fun c => ?_)
  · have c : k = 2 := by simpa using c
    rw [if_pos c] at h
    obtain ⟨j1, j2⟩ := join_good dr.1 tg
    repeat (walk_at "pl e")
    refine TE.callG hC fs.f30 (by kernel_rfl) (by kernel_rfl) ?_
    refine TArgs.consR rfl ?_
    refine TE.callG hC fs.f31 (by kernel_rfl) (by kernel_rfl) ?_
    repeat (walk_at "pl e")
    refine CallV.fnI hC (head_ok fs.f31 hb mr gr.ne ?_) (by decide)
    repeat (walk_at "pl e")
    refine Item.listZ (.fz _) (by (first | lia | omega)) (ls.trans ls1) zs ?_
    repeat (walk_at "pl e")
    refine Item.tupN (j := 1) (by simp) rfl ?_
    repeat (walk_at "pl e")
    refine ⟨by simp, ?_⟩
    repeat (walk_at "pl e")
    refine ⟨by simp, ?_⟩
    refine TArgs.nil ?_
    refine CallV.fnI hC (lawjoin_ok (s := [(0, ns)]) fs.f30 hb (good_small dr.1 (by rw [← dr.2]; (first | lia | omega))) (good_small tg (by rw [ts]; (first | lia | omega))) (fun c h => hc c (dirS_mem (by rw [dr.2]; exact h))) dr.1.ne tg.ne ?_) (by decide)
    refine TArgs.nil ⟨by simp, ?_⟩
    exact h [joinR (headR r) [(0, ns)]] (by simpa using j1) (by rw [dr.2, bs, List.map_singleton, j2, ts])
  have c : ¬ k = 2 := by simpa using c
  rw [if_neg c] at h
  refine TSs.nil ?_
  -- endings
  refine TSs.cons ?_
  repeat (walk_at "pl e")
  refine Bin.mod_int (by decide) ?_
  rw [hk]
  repeat (walk_at "pl e")
  refine ite_b (fun c => ?_) (fun c => ?_)
  · have c : k = 3 := by simpa using c
    rw [if_pos c] at h
    have fd_ : 47 ∉ ns.drop (atN ns) := fun q => fs_ (List.mem_of_mem_drop q)
    obtain ⟨x1, x2⟩ := ext_good (er ▸ gr) fd_
    have x3 := ext_drop (es ▸ gs)
    rw [← es] at x3
    rw [← er] at x2
    refine TSs.cons ?_
    refine TS.assignTo ?_
    repeat (walk_at "pl e")
    refine Item.listZ (.fz _) (by (first | lia | omega)) (lr.trans lr1) zr ?_
    refine TAs.tuple hC.calm rfl ?_
    refine TIn.cons (TAs.name (by walk_at "pl st") ?_) rfl
    refine TIn.cons (TAs.name (by walk_at "pl st") ?_) rfl
    refine TIn.nil ?_
    refine TSs.le (σ' := ⟨[("one", rowW r), ("other", rowW s), ("slashes", .int (kr : Int)), ("name", .txt false nr)], K⟩) ⟨by walk_at "pl lo", List.Sublist.refl _⟩ ?_
    refine TSs.cons ?_
    repeat (walk_at "pl e")
    refine Slc.list (.fz _) (by (first | lia | omega)) (by decide) ?_
    rw [pick_plain, sl_end, er, List.map_append, List.map_singleton, List.dropLast_concat]
    repeat (walk_at "pl e")
    refine TE.callG hC fs.f32 (by kernel_rfl) (by kernel_rfl) ?_
    repeat (walk_at "pl e")
    refine CallV.fnI hC (cut_ok fs.f32 hb (by (first | lia | omega)) ?_) (by decide)
    refine ⟨_, rfl, ?_⟩
    repeat (walk_at "pl e")
    refine Slc.txt (by (first | lia | omega)) ?_
    rw [sl_to]
    repeat (walk_at "pl e")
    refine Item.listZ (.fz _) (by (first | lia | omega)) (ls.trans ls1) zs ?_
    repeat (walk_at "pl e")
    refine Item.tupN (j := 1) (u := .txt false ns) (by simp) rfl ?_
    repeat (walk_at "pl e")
    refine TE.callG hC fs.f32 (by kernel_rfl) (by kernel_rfl) ?_
    repeat (walk_at "pl e")
    refine Item.listZ (.fz _) (by (first | lia | omega)) (ls.trans ls1) zs ?_
    repeat (walk_at "pl e")
    refine Item.tupN (j := 1) (u := .txt false ns) (by simp) rfl ?_
    repeat (walk_at "pl e")
    refine CallV.fnI hC (cut_ok fs.f32 hb (by (first | lia | omega)) ?_) (by decide)
    refine ⟨_, rfl, ?_⟩
    repeat (walk_at "pl e")
    refine Slc.txt (by (first | lia | omega)) ?_
    rw [sl_from]
    refine Bin.add_txt (by rw [List.length_take, List.length_drop]; (first | lia | omega)) ?_
    refine TArgs.nil ⟨by simp, ?_⟩
    refine TArgs.nil ⟨by simp, ?_⟩
    refine Bin.add_list (.fz _) (.fz _) ?_ ?_
    · rw [List.length_map]; simp only [List.length_singleton]; (first | lia | omega)
    refine TArgs.nil ⟨by simp, ?_⟩
    refine h [ar ++ [(kr, nr.take (atN nr) ++ ns.drop (atN ns))]] (by simpa using x1) (by rw [List.map_singleton, x2, x3]) |> fun q => ?_
    rw [show ([ar ++ [(kr, nr.take (atN nr) ++ ns.drop (atN ns))]].map rowW) = [.lst (ar.map pairV ++ [pairV (kr, nr.take (atN nr) ++ ns.drop (atN ns))])] from by rw [List.map_singleton]; unfold rowW; rw [List.map_append]; rfl] at q
    exact q
  have c : ¬ k = 3 := by simpa using c
  rw [if_neg c] at h
  refine TSs.nil ?_
  -- plain
  refine TSs.cons ?_
  repeat (walk_at "pl e")
  refine Bin.mod_int (by decide) ?_
  rw [hk]
  repeat (walk_at "pl e")
  refine ite_b (fun c => ?_) (fun c => ?_)
  · have c : k = 4 := by simpa using c
    rw [if_pos c] at h
    repeat (walk_at "pl e")
    refine TE.callG hC fs.f35 (by kernel_rfl) (by kernel_rfl) ?_
    repeat (walk_at "pl e")
    refine CallV.fnI hC (plain_ok fs.f35 fs.f33 fs.f34 hb mr gr fun r' g1 g2 => ?_) (by decide)
    refine TArgs.nil ⟨by simp, ?_⟩
    exact h [r'] (by simpa using g1) (by rw [← g2]; rfl)
  have c : ¬ k = 4 := by simpa using c
  rw [if_neg c] at h
  refine TSs.nil ?_
  -- shared
  refine TSs.cons ?_
  repeat (walk_at "pl e")
  refine Bin.mod_int (by decide) ?_
  rw [hk]
  repeat (walk_at "pl e")
  refine ite_b (fun c => ?_) (fun c => ?_)
  · have c : k = 5 := by simpa using c
    rw [if_pos c] at h
    obtain ⟨b1, b2, b3⟩ := pfx_both (namesR r) (namesR s)
    have hcp := cp_good gr gs
    have hmx := pfx_ge (namesR r) (namesR s)
    have nl : (namesR r).length ≤ 1000 := Nat.le_trans (List.length_filter_le _ _) (by rw [List.length_map]; exact hlr)
    have nl2 : (namesR s).length ≤ 1000 := Nat.le_trans (List.length_filter_le _ _) (by rw [List.length_map]; exact hls)
    obtain ⟨k1, n1, t1, e1⟩ : ∃ k n t, r = (k, n) :: t := by
      cases r with
      | nil => exact absurd rfl gr.ne
      | cons p t => exact ⟨p.1, p.2, t, rfl⟩
    obtain ⟨k2, n2, t2, e2⟩ : ∃ k n t, s = (k, n) :: t := by
      cases s with
      | nil => exact absurd rfl gs.ne
      | cons p t => exact ⟨p.1, p.2, t, rfl⟩
    have w1 : (r.map pairV)[0]? = some (pairV (k1, n1)) := row_at (by rw [e1]; rfl)
    have w2 : (s.map pairV)[0]? = some (pairV (k2, n2)) := row_at (by rw [e2]; rfl)
    have v1 : (if ((k1 : Nat) : Int) < 1 then (k1 : Int) else 1) = ((if headIs 47 (spR r) then 1 else 0 : Nat) : Int) := by
      have q : headIs 47 (spR r) = decide (0 < k1) := by rw [e1] at gr ⊢; exact head_good gr
      rw [q]
      by_cases z : 0 < k1
      · rw [if_neg (by (first | lia | omega)), decide_eq_true z]; rfl
      · rw [if_pos (by (first | lia | omega)), decide_eq_false z]; show (k1 : Int) = 0; (first | lia | omega)
    have v2 : (if ((k2 : Nat) : Int) < 1 then (k2 : Int) else 1) = ((if headIs 47 (spR s) then 1 else 0 : Nat) : Int) := by
      have q : headIs 47 (spR s) = decide (0 < k2) := by rw [e2] at gs ⊢; exact head_good gs
      rw [q]
      by_cases z : 0 < k2
      · rw [if_neg (by (first | lia | omega)), decide_eq_true z]; rfl
      · rw [if_pos (by (first | lia | omega)), decide_eq_false z]; show (k2 : Int) = 0; (first | lia | omega)
    clear e1 e2
    refine TSs.cons ?_
    refine TS.assign (by walk_at "pl st") ?_
    refine TE.callG hC fs.f34 (by kernel_rfl) (by kernel_rfl) ?_
    repeat (walk_at "pl e")
    refine CallV.fnI hC (lnames_ok fs.f34 hb mr ?_) (by decide)
    obtain ⟨xs, hxs⟩ : ∃ xs, xs = namesR r := ⟨_, rfl⟩
    obtain ⟨ys, hys⟩ : ∃ ys, ys = namesR s := ⟨_, rfl⟩
    rw [← hxs] at b1 b2 b3 hcp hmx nl ⊢
    rw [← hys] at b1 b2 b3 hcp hmx nl2
    obtain ⟨P, hP⟩ : ∃ P, P = pfx xs ys := ⟨_, rfl⟩
    rw [← hP] at b1 b2 b3 hcp hmx
    clear hP
    refine TSs.cons ?_
    refine TS.cut (P := fun fl σ' => fl = .next ∧ Le ⟨[("one", rowW r), ("other", rowW s), ("shared", .lst (P.map (.txt false)))], K⟩ σ') ?_ ?_
    · refine TS.while_ (fun m σ => ∃ j, m = j ∧ P.length ≤ j ∧ j ≤ xs.length ∧ Le ⟨[("one", rowW r), ("other", rowW s), ("shared", .lst ((xs.take j).map (.txt false)))], K⟩ σ) xs.length ⟨xs.length, rfl, b3, Nat.le_refl _, by rw [List.take_length]; exact ⟨by walk_at "pl lo", List.Sublist.refl _⟩⟩ ?_
      rintro j σ ⟨_, rfl, hj1, hj2, hle⟩
      have lj : ((xs.take j).map (V.txt false)).length = j := by rw [List.length_map, List.length_take]; (first | lia | omega)
      refine TB.le hle ?_
      clear hle
      repeat (walk_at "pl e")
      refine TE.callG hC fs.f34 (by kernel_rfl) (by kernel_rfl) ?_
      repeat (walk_at "pl e")
      refine CallV.fnI hC (lnames_ok fs.f34 hb ms ?_) (by decide)
      rw [← hys]
      repeat (walk_at "pl e")
      refine call_len_list (.fz _) (by (first | lia | omega)) ?_
      rw [lj]
      refine ⟨_, rfl, ?_⟩
      repeat (walk_at "pl e")
      refine Slc.list (.fz _) (by rw [List.length_map]; (first | lia | omega)) (by decide) ?_
      rw [pick_plain, sl_to, ← List.map_take]
      repeat (walk_at "pl e")
      refine Cmp.neL (.fz _) (.fz _) (EqRs.txts false (ys.take j) (xs.take j)) ?_
      refine ⟨_, rfl, ?_⟩
      refine ite_b (fun c1 => ?_) (fun c1 => ?_)
      · have c1 : ys.take j ≠ xs.take j := by simpa using c1
        have hjP : j ≠ P.length := fun e => c1 (by rw [e, ← b1, ← b2])
        refine TSs.cons ?_
        repeat (walk_at "pl e")
        refine Slc.list (.fz _) (by (first | lia | omega)) (by decide) ?_
        rw [pick_plain, sl_end, ← List.map_dropLast, List.dropLast_eq_take, List.length_take, Nat.min_eq_left hj2, List.take_take, Nat.min_eq_left (Nat.sub_le j 1)]
        exact TSs.nil ⟨j - 1, by (first | lia | omega), j - 1, rfl, by (first | lia | omega), by (first | lia | omega), by walk_at "pl lo", List.Sublist.refl _⟩
      · have c1 : ys.take j = xs.take j := by simpa using c1
        have := hmx j hj2 c1.symm
        have ej : j = P.length := by (first | lia | omega)
        rw [ej, ← b1]
        exact TSs.nil ⟨rfl, by walk_at "pl lo", List.Sublist.refl _⟩
    rintro _ σ' ⟨rfl, hle⟩
    refine TSs.le hle ?_
    clear hle σ' hmx b1 b2
    refine TSs.cons ?_
    repeat (walk_at "pl e")
    refine Item.listN (.fz _) (j := 0) (by (first | lia | omega)) w1 ?_
    repeat (walk_at "pl e")
    refine Item.tupN (j := 0) (u := .int (k1 : Int)) (by simp) rfl ?_
    repeat (walk_at "pl e")
    refine call_min2 hC.calm ?_
    rw [v1]
    repeat (walk_at "pl e")
    refine Item.listN (.fz _) (j := 0) (by (first | lia | omega)) w2 ?_
    repeat (walk_at "pl e")
    refine Item.tupN (j := 0) (u := .int (k2 : Int)) (by simp) rfl ?_
    repeat (walk_at "pl e")
    refine call_min2 hC.calm ?_
    rw [v2]
    refine TArgs.nil ⟨by simp, ?_⟩
    refine TSs.cons ?_
    repeat (walk_at "pl e")
    refine Item.listN (.fz _) (j := 0) (u := .int ((if headIs 47 (spR r) then 1 else 0 : Nat) : Int)) (by simp) rfl ?_
    repeat (walk_at "pl e")
    refine Item.listN (.fz _) (j := 1) (u := .int ((if headIs 47 (spR s) then 1 else 0 : Nat) : Int)) (by simp) rfl ?_
    repeat (walk_at "pl e")
    refine ite_b (fun c1 => ?_) (fun c1 => ?_)
    · have c1 : headIs 47 (spR r) = headIs 47 (spR s) := by
        revert c1
        cases headIs 47 (spR r) <;> cases headIs 47 (spR s) <;> simp
      obtain ⟨p1, p2⟩ := hcp c1
      rw [if_pos c1, ← p2] at h
      repeat (walk_at "pl e")
      refine TE.callG hC fs.f33 (by kernel_rfl) (by kernel_rfl) ?_
      repeat (walk_at "pl e")
      refine Item.listN (.fz _) (j := 0) (u := .int ((if headIs 47 (spR r) then 1 else 0 : Nat) : Int)) (by simp) rfl ?_
      repeat (walk_at "pl e")
      refine CallV.fnI hC (lrow_ok fs.f33 hb (by (first | lia | omega)) ?_) (by decide)
      refine TArgs.nil ⟨by simp, ?_⟩
      exact h [rowR (if headIs 47 (spR r) then 1 else 0) P] (by simpa using p1) rfl
    · have c1 : ¬ headIs 47 (spR r) = headIs 47 (spR s) := fun q => c1 (by rw [q]; simp)
      rw [if_neg c1] at h
      repeat (walk_at "pl e")
      refine ⟨by simp, ?_⟩
      exact h [] (by simp) rfl
  have c : ¬ k = 5 := by simpa using c
  rw [if_neg c] at h
  refine TSs.nil ?_
  -- a sign
  refine TSs.cons ?_
  repeat (walk_at "pl e")
  refine TE.callG hC fs.f27 (by kernel_rfl) (by kernel_rfl) ?_
  repeat (walk_at "pl e")
  refine Bin.fdiv_int (by decide) (PyProof.noPylong_of_log2 (by decide +kernel)) ?_
  refine TArgs.nil ?_
  refine CallV.fnI hC (sign_ok fs.f27 hb ?_) (by decide)
  obtain ⟨s1, s2, s3⟩ := sign_good (c := sgn (x.fdiv 8)) (er ▸ gr)
  rw [← er] at s1 s2 s3
  generalize sgn (x.fdiv 8) = sg at h s1 s2 s3 ⊢
  refine TSs.cons ?_
  refine TS.assignTo ?_
  repeat (walk_at "pl e")
  refine Item.listZ (.fz _) (by (first | lia | omega)) (lr.trans lr1) zr ?_
  refine TAs.tuple hC.calm rfl ?_
  refine TIn.cons (TAs.name (by walk_at "pl st") ?_) rfl
  refine TIn.cons (TAs.name (by walk_at "pl st") ?_) rfl
  refine TIn.nil ?_
  refine TSs.le (σ' := ⟨[("one", rowW r), ("sign", .txt false [sg]), ("slashes", .int (kr : Int)), ("name", .txt false nr)], K⟩) ⟨by walk_at "pl lo", List.Sublist.refl _⟩ ?_
  have eW : ∀ p, rowW (ar ++ [p]) = .lst (ar.map pairV ++ [pairV p]) := fun p => by unfold rowW; rw [List.map_append]; rfl
  have eW2 : ∀ p, rowW (r ++ [p]) = .lst (r.map pairV ++ [pairV p]) := fun p => by unfold rowW; rw [List.map_append]; rfl
  have al : (ar.map pairV).length = ar.length := List.length_map ..
  have eD : (r.map pairV).dropLast = ar.map pairV := by rw [er, List.map_append, List.map_singleton, List.dropLast_concat]
  refine TSs.cons ?_
  repeat (walk_at "pl e")
  refine ite_b (fun c1 => ?_) (fun c1 => ?_)
  · have c1 : sg ≠ 47 := by simpa using c1
    obtain ⟨p1, p2⟩ := s1 c1
    repeat (walk_at "pl e")
    refine Slc.list (.fz _) (by (first | lia | omega)) (by decide) ?_
    rw [pick_plain, sl_end, eD]
    repeat (walk_at "pl e")
    refine Bin.add_txt (by rw [List.length_singleton]; (first | lia | omega)) ?_
    refine TArgs.nil ⟨by simp, ?_⟩
    refine TArgs.nil ⟨by simp, ?_⟩
    refine Bin.add_list (.fz _) (.fz _) (by rw [List.length_singleton]; (first | lia | omega)) ?_
    refine TArgs.nil ⟨by simp, ?_⟩
    have q := h [ar ++ [(kr, nr ++ [sg])]] (by simpa using p1) (by rw [List.map_singleton, p2])
    rw [List.map_singleton, eW] at q
    exact q
  have c1 : sg = 47 := by simpa using c1
  refine TSs.nil ?_
  refine TSs.cons ?_
  repeat (walk_at "pl e")
  refine ite_b (fun c2 => ?_) (fun c2 => ?_)
  · have c2 : nr = [] := by simpa using c2
    obtain ⟨p1, p2⟩ := s2 c1 c2
    repeat (walk_at "pl e")
    refine Slc.list (.fz _) (by (first | lia | omega)) (by decide) ?_
    rw [pick_plain, sl_end, eD]
    repeat (walk_at "pl e")
    refine ⟨by simp, ?_⟩
    repeat (walk_at "pl e")
    refine ⟨by simp, ?_⟩
    refine Bin.add_list (.fz _) (.fz _) (by rw [List.length_singleton]; (first | lia | omega)) ?_
    refine TArgs.nil ⟨by simp, ?_⟩
    have q := h [ar ++ [(kr + 1, [])]] (by simpa using p1) (by rw [List.map_singleton, p2])
    rw [List.map_singleton, eW] at q
    exact q
  · have c2 : ¬ nr = [] := by simpa using c2
    obtain ⟨p1, p2⟩ := s3 c1 c2
    repeat (walk_at "pl e")
    refine ⟨by simp, ?_⟩
    repeat (walk_at "pl e")
    refine ⟨by simp, ?_⟩
    refine Bin.add_list (.fz _) (.fz _) (by rw [List.length_singleton]; (first | lia | omega)) ?_
    refine TArgs.nil ⟨by simp, ?_⟩
    have q := h [r ++ [(1, [])]] (by simpa using p1) (by rw [List.map_singleton, p2])
    rw [List.map_singleton, eW2] at q
    exact q
end PL

end
section
open PySem PySem.Calls PyProof.Rows
set_option Elab.async false
set_option linter.unusedVariables false
set_option linter.unusedSimpArgs false
set_option maxRecDepth 100000
set_option maxHeartbeats 4000000

namespace PL

theorem jn_mem {p q : List Nat} {c : Nat} (h : c ∈ jn1 p q) : c ∈ p ∨ c ∈ q ∨ c = 47 := by
  unfold jn1 at h
  split at h
  · exact .inr (.inl h)
  · split at h
    · exact (List.mem_append.mp h).imp id .inl
    · rcases List.mem_append.mp h with h | h
      · exact .inl h
      · rcases List.mem_append.mp h with h | h
        · exact .inr (.inr (List.mem_singleton.mp h))
        · exact .inr (.inl h)
theorem joined_mem {ps : List (List Nat)} {l : List Nat} (hp : ∀ p ∈ ps, ∀ c ∈ p, c ∈ l) {c : Nat} (h : c ∈ joinS [47] ps) : c ∈ l ∨ c = 47 := by
  rcases joinS_mem h with h | ⟨p, h1, h2⟩
  · exact .inr (List.mem_singleton.mp h)
  · exact .inl (hp p h1 c h2)
theorem norm_mem {l : List Nat} {c : Nat} (h : c ∈ normS l) : c ∈ l ∨ c = 47 ∨ c = 46 := by
  unfold normS at h
  split at h
  · exact .inr (.inr (List.mem_singleton.mp h))
  · dsimp only at h
    split at h
    · exact .inr (.inr (List.mem_singleton.mp h))
    · rcases List.mem_append.mp h with h | h
      · exact .inr (.inl (List.eq_of_mem_replicate h))
      · refine (joined_mem (l := l) (fun p hp c hc => ?_) h).imp id .inl
        rcases fold_mem _ _ _ hp with e | e
        · cases e
        · exact List.mem_of_mem_drop (splitS_mem e c hc)
theorem cp_mem {p q : List Nat} {c : Nat} (h : c ∈ cpS [p, q]) : c ∈ p ∨ c = 47 := by
  unfold cpS at h
  rcases List.mem_append.mp h with h | h
  · split at h
    · exact .inr (List.mem_singleton.mp h)
    · cases h
  · refine joined_mem (fun n hn c hc => ?_) h
    rw [List.map_cons, List.map_cons, List.map_nil, cpL_two] at hn
    rw [(pfx_both _ _).1] at hn
    exact splitS_mem (List.mem_filter.mp (List.mem_of_mem_take hn)).1 c hc
/-- what a step gives is small -/
theorem step_small {k : Int} {sg : Nat} {p q : List Nat} (hs : sg < 256) (hp : p.length ≤ 12) (hq : q.length ≤ 12) (cp : ∀ c ∈ p, c < 256) (cq : ∀ c ∈ q, c < 256) :
    (stepS k sg p q).length ≤ 2 ∧ ∀ t ∈ stepS k sg p q, t.length ≤ 900 ∧ ∀ c ∈ t, c < 256 := by
  have jn : ∀ {a b : List Nat}, (∀ c ∈ a, c < 256) → (∀ c ∈ b, c < 256) → ∀ c ∈ jn1 a b, c < 256 := fun ha hb c hc => by
    rcases jn_mem hc with h | h | h
    · exact ha c h
    · exact hb c h
    · (clear hc hb ha cq cp hq hp hs k q p sg; (first | lia | omega))
  have one : ∀ {x : List Nat}, x.length ≤ 900 → (∀ c ∈ x, c < 256) → ([x] : List (List Nat)).length ≤ 2 ∧ ∀ t ∈ [x], t.length ≤ 900 ∧ ∀ c ∈ t, c < 256 := fun h1 h2 => ⟨by simp, fun t ht => by rw [List.mem_singleton.mp ht]; exact ⟨h1, h2⟩⟩
  have d1 : ∀ c ∈ dirS p, c < 256 := fun c hc => cp c (dirS_mem hc)
  have d2 : ∀ c ∈ baseS p, c < 256 := fun c hc => cp c (List.mem_of_mem_drop hc)
  have d3 : ∀ c ∈ baseS q, c < 256 := fun c hc => cq c (List.mem_of_mem_drop hc)
  have l1 := dir_base_len p
  have l2 := dir_base_len q
  unfold stepS
  split
  · exact one (by have := jn1_len p q; (clear l2 l1 d3 d2 d1 one jn cq cp hs sg; (first | lia | omega))) (jn cp cq)
  split
  · refine ⟨by simp, fun t ht => ?_⟩
    simp only [List.mem_cons, List.not_mem_nil, or_false] at ht
    rcases ht with rfl | rfl
    · exact ⟨by (clear l2 d3 d2 d1 one jn cq cp hq hs q sg; (first | lia | omega)), d1⟩
    · exact ⟨by (clear l2 d3 d2 d1 one jn cq cp hq hs q sg; (first | lia | omega)), d2⟩
  split
  · exact one (by have := jn1_len (dirS p) (baseS q); (clear d3 d2 d1 one jn cq cp hs sg; (first | lia | omega))) (jn d1 d3)
  split
  · refine one (by rw [List.length_append, List.length_take, List.length_drop]; (clear l2 l1 d3 d2 d1 one jn cq cp hs sg; (first | lia | omega))) fun c hc => ?_
    rcases List.mem_append.mp hc with h | h
    · exact cp c (List.mem_of_mem_take h)
    · exact cq c (List.mem_of_mem_drop h)
  split
  · refine one (by have := normS_len p; (clear l2 l1 d3 d2 d1 one jn cq cp hq hs q sg; (first | lia | omega))) fun c hc => ?_
    rcases norm_mem hc with h | h | h
    · exact cp c h
    · (clear hc l2 l1 d3 d2 d1 one jn cq cp hq hp hs q p sg; (first | lia | omega))
    · (clear hc l2 l1 d3 d2 d1 one jn cq cp hq hp hs q p sg; (first | lia | omega))
  split
  · split
    · refine one (by have := cp_short p q; (clear l2 l1 d3 d2 d1 one jn cq cp hs sg; (first | lia | omega))) fun c hc => ?_
      rcases cp_mem hc with h | h
      · exact cp c h
      · (clear hc l2 l1 d3 d2 d1 one jn cq cp hq hp hs sg; (first | lia | omega))
    · exact ⟨by simp, fun t ht => by cases ht⟩
  · refine one (by rw [List.length_append, List.length_singleton]; (clear l2 l1 d3 d2 d1 one jn cq cp hq hs q sg; (first | lia | omega))) fun c hc => ?_
    rcases List.mem_append.mp hc with h | h
    · exact cp c h
    · rw [List.mem_singleton.mp h]; exact hs
/-- the four rows -/
structure RowsOK (rs : List Row) : Prop where
  len : rs.length = 4
  ok : ∀ r ∈ rs, GoodR r ∧ (spR r).length ≤ 12 ∧ ∀ c ∈ spR r, c < 256
theorem RowsOK.at {rs : List Row} (h : RowsOK rs) {j : Nat} (hj : j < 4) : ∃ r, rs[j]? = some r ∧ GoodR r ∧ (spR r).length ≤ 12 ∧ ∀ c ∈ spR r, c < 256 := by
  have e := List.getElem?_eq_getElem (l := rs) (i := j) (by rw [h.len]; exact hj)
  exact ⟨_, e, h.ok _ (List.mem_of_getElem? e)⟩
theorem RowsOK.set {rs : List Row} (h : RowsOK rs) {j : Nat} {r : Row} (hr : GoodR r ∧ (spR r).length ≤ 12 ∧ ∀ c ∈ spR r, c < 256) : RowsOK (rs.set j r) :=
  ⟨by rw [List.length_set, h.len], fun x hx => by
    rcases List.mem_or_eq_of_mem_set hx with e | e
    · exact h.ok x e
    · rw [e]; exact hr⟩
noncomputable abbrev L12 (aP aR : Addr) (o : Bool) (rs : List Row) : Led := [(aP, .list (rs.map fun r => .txt o (spR r))), (aR, .list (rs.map rowW))]
theorem law12_ok {g : Gd} {a a10 a12 a15 a16 a17 a18 a20 a21 a22 a23 a24 a26 a27 a28 a29 a30 a31 a32 a33 a34 a35 a36 : Addr} (hf : Fn g P12 37 a) (fs : Fs12 g a10 a12 a15 a16 a17 a18 a20 a21 a22 a23 a24 a26 a27 a28 a29 a30 a31 a32 a33 a34 a35 a36) {xs : List Int} (hx : xs.length ≤ 63) {X : XL} : CallT g (99 + 1) (.ref a) [.lst (xs.map .int)] (fun v _ => v = .bool true) X [] := by
  have hb := fs.b
  obtain ⟨hm, fd, F⟩ := hf
  refine CallT.def_ F (by rw [pars37]; rfl) fun C hC hro => ?_
  rw [pars37]
  refine TSs.le start1 ?_
  refine TSs.cons ?_
  refine TS.assignC hC hro (by kernel_rfl) ?_
  repeat (walk_at "pl e")
  refine call_sum hC.calm (.fz _) ?_
  repeat (walk_at "pl e")
  refine Bin.mod_int (by decide) ?_
  refine TE.const_int ?_
  refine Cmp.eq_int ?_
  generalize (xs.sum.fmod 2 == 1) = o
  with_reducible refine TSs.cons ?_
  with_reducible refine TS.assignR ?_ ?_ ?_
  · walk_at "pl st"
  · exact rfl
  with_reducible refine TE.listM ?_
  repeat (walk_at "pl e")
  refine ⟨by simp, ?_⟩
  repeat (walk_at "pl e")
  refine ⟨by simp, ?_⟩
  repeat (walk_at "pl e")
  refine ⟨by simp, ?_⟩
  repeat (walk_at "pl e")
  refine ⟨by simp, ?_⟩
  repeat (walk_at "pl e")
  refine ⟨by simp, ?_⟩
  repeat (walk_at "pl e")
  refine ⟨by simp, ?_⟩
  repeat (walk_at "pl e")
  refine ⟨by simp, ?_⟩
  repeat (walk_at "pl e")
  refine ⟨by simp, ?_⟩
  repeat (walk_at "pl e")
  refine ⟨by simp, fun aR => ?_⟩
  obtain ⟨rs0, hrs0⟩ : ∃ rs0 : List Row, rs0 = [[(0, [])], [(1, [])], [(0, [97])], [(0, [46, 46])]] := ⟨_, rfl⟩
  have h0 : RowsOK rs0 := ⟨by rw [hrs0]; rfl, fun r hr => by
    rw [hrs0] at hr
    simp only [List.mem_cons, List.not_mem_nil, or_false] at hr
    rcases hr with rfl | rfl | rfl | rfl
    · exact ⟨good_one (by decide), by decide, by decide⟩
    · exact ⟨good_one (by decide), by decide, by decide⟩
    · exact ⟨good_one (by decide), by decide, by decide⟩
    · exact ⟨good_one (by decide), by decide, by decide⟩⟩
  refine TSs.le (σ' := ⟨[("script", .lst (xs.map .int)), ("octets", .bool o), ("rows", .ref aR)], [(aR, .list (rs0.map rowW))]⟩) ⟨by walk_at "pl lo", by rw [hrs0]; exact List.Sublist.refl _⟩ ?_
  clear hrs0
  with_reducible refine TSs.cons ?_
  refine TS.assignComp hC (by walk_at "pl comp") (by kernel_rfl) (by kernel_rfl) (by kernel_rfl) ?_
  repeat (walk_at "pl e")
  refine ⟨Row, rs0, rowW, fun r => some (.txt o (spR r)), [("octets", .bool o)], [(aR, .list (rs0.map rowW))], _, Walk.led, fun H' hs => hs.subset (by simp), List.Sublist.refl _, by walk_at "pl lf", by rw [h0.len]; decide, ?_, ?_⟩
  · intro C' hC' r hr
    obtain ⟨g1, g2, g3⟩ := h0.ok r hr
    refine TAs.name (hC'.stL (by kernel_rfl)) ?_
    refine TIfs.nil ?_
    refine ite_t rfl ?_
    refine TE.callG hC' fs.f26 (by kernel_rfl) (by kernel_rfl) ?_
    refine TArgs.consR rfl ?_
    refine TE.callG hC' fs.f29 (by kernel_rfl) (by kernel_rfl) ?_
    repeat (walk_at "pl e")
    refine CallV.fnI hC' (spelled_ok fs.f29 hb (good_small g1 (by (clear g3 g1 hr hC' C' h0 rs0 aR o hro hC C F fd hm hb X hx fs a36 a35 a34 a33 a32 a31 a30 a29 a28 a27 a26 a24 a23 a22 a21 a20 a18 a17 a16 a15 a12 a10 a g xs; (first | lia | omega)))) ?_) (by decide)
    repeat (walk_at "pl e")
    refine CallV.fnI hC' (kind_ok fs.f26 hb (by (clear g3 g1 hr hC' C' h0 rs0 aR o hro hC C F fd hm hb X hx fs a36 a35 a34 a33 a32 a31 a30 a29 a28 a27 a26 a24 a23 a22 a21 a20 a18 a17 a16 a15 a12 a10 a g xs; (first | lia | omega))) g3 ?_) (by decide)
    exact ⟨rfl, by walk_at "pl lo", List.Sublist.refl _⟩
  rw [filterMap_some]
  refine .inr fun aP => ?_
  refine TSs.le (σ' := ⟨[("script", .lst (xs.map .int)), ("octets", .bool o), ("rows", .ref aR), ("paths", .ref aP)], L12 aP aR o rs0⟩) ⟨by walk_at "pl lo", List.Sublist.refl _⟩ ?_
  refine TSs.cons ?_
  refine TS.for_ hC.calm ?_
  repeat (walk_at "pl e")
  refine ⟨by simp, ?_⟩
  refine Bin.add_list (.fz _) (.fz _) (by rw [List.length_map, List.length_singleton]; (clear aP h0 rs0 aR o hro hC C F fd hm hb X fs a36 a35 a34 a33 a32 a31 a30 a29 a28 a27 a26 a24 a23 a22 a21 a20 a18 a17 a16 a15 a12 a10 a g; (first | lia | omega))) ?_
  rw [show (xs.map V.int ++ [V.int 4]) = (xs ++ [4]).map .int from by rw [List.map_append]; rfl]
  refine ⟨_, _, Walk.lst, fun i σ => ∃ rs, RowsOK rs ∧ Le ⟨[("octets", .bool o), ("rows", .ref aR), ("paths", .ref aP)], L12 aP aR o rs⟩ σ, ⟨rs0, h0, by walk_at "pl lo", List.Sublist.refl _⟩, fun _ _ _ => trivial, ?_, ?_⟩
  rotate_left
  · rintro σ ⟨rs, _, hle⟩
    refine TSs.nil ?_
    refine TSs.le hle ?_
    repeat (walk_at "pl e")
    rfl
  clear h0 rs0
  rintro i u σ hu ⟨rs, hrs, hle⟩
  rw [List.getElem?_map] at hu
  obtain ⟨x, hu⟩ : ∃ x : Int, u = .int x := by
    cases e : (xs ++ [4])[i]? with
    | none => rw [e] at hu; cases hu
    | some c => rw [e] at hu; cases hu; exact ⟨c, rfl⟩
  subst hu
  refine TAs.name (by walk_at "pl st") ?_
  refine TSs.le hle.both ?_
  clear hle hu i σ
  obtain ⟨q, hq⟩ : ∃ q, q = x.fdiv 8 := ⟨_, rfl⟩
  obtain ⟨j1, hj1, e1⟩ := fmod_nat q 4 (by decide)
  obtain ⟨j2, hj2, e2⟩ := fmod_nat (q.fdiv 4) 4 (by decide)
  obtain ⟨j3, hj3, e3⟩ := fmod_nat (q.fdiv 16) 4 (by decide)
  replace e1 : q.fmod 4 = j1 := e1
  replace e2 : (q.fdiv 4).fmod 4 = j2 := e2
  replace e3 : (q.fdiv 16).fmod 4 = j3 := e3
  obtain ⟨r, gr, r1, r2, r3⟩ := hrs.at hj1
  obtain ⟨s, gs, s1, s2, s3⟩ := hrs.at hj2
  have lP : (rs.map fun r => V.txt o (spR r)).length = 4 := by rw [List.length_map, hrs.len]
  have lR : (rs.map rowW).length = 4 := by rw [List.length_map, hrs.len]
  obtain ⟨t1, t2⟩ := step_small (k := x.fmod 8) (sgn_lt q) r2 s2 r3 s3
  refine TSs.cons ?_
  repeat (walk_at "pl e")
  refine Bin.fdiv_int (by decide) (PyProof.noPylong_of_log2 (by decide +kernel)) ?_
  rw [← hq]
  refine TSs.cons ?_
  refine TS.assign (by walk_at "pl st") ?_
  refine TE.callG hC fs.f28 (by kernel_rfl) (by kernel_rfl) ?_
  repeat (walk_at "pl e")
  refine Bin.mod_int (by decide) ?_
  rw [e1]
  refine Item.listN (.mt (List.mem_cons_self)) (by (clear t2 t1 lR s3 s2 s1 gs r3 r2 r1 gr e3 e2 e1 hj3 hj2 hj1 hq hrs aP aR hro hC C F fd hm hb X hx fs a36 a35 a34 a33 a32 a31 a30 a29 a28 a27 a26 a24 a23 a22 a21 a20 a18 a17 a16 a15 a12 a10 a g s r j3 j2 j1 q x xs; (first | lia | omega))) (u := .txt o (spR r)) (by rw [List.getElem?_map, gr]; rfl) ?_
  repeat (walk_at "pl e")
  refine Bin.fdiv_int (by decide) (PyProof.noPylong_of_log2 (by decide +kernel)) ?_
  repeat (walk_at "pl e")
  refine Bin.mod_int (by decide) ?_
  rw [e2]
  refine Item.listN (.mt (List.mem_cons_self)) (by (clear t2 t1 lR s3 s2 s1 gs r3 r2 r1 gr e3 e2 e1 hj3 hj2 hj1 hq hrs aP aR hro hC C F fd hm hb X hx fs a36 a35 a34 a33 a32 a31 a30 a29 a28 a27 a26 a24 a23 a22 a21 a20 a18 a17 a16 a15 a12 a10 a g s r j3 j2 j1 q x xs; (first | lia | omega))) (u := .txt o (spR s)) (by rw [List.getElem?_map, gs]; rfl) ?_
  repeat (walk_at "pl e")
  refine CallV.fnI hC (step_ok fs r2 s2 fun H1 hH1 => ?_) (by decide)
  rw [← hq]
  obtain ⟨T, hT⟩ : ∃ T, T = stepS (x.fmod 8) (sgn q) (spR r) (spR s) := ⟨_, rfl⟩
  rw [← hT] at t1 t2 ⊢
  refine TSs.le (σ' := ⟨[("octets", .bool o), ("rows", .ref aR), ("paths", .ref aP), ("x", .int x), ("q", .int q), ("told", .lst (T.map (.txt o)))], L12 aP aR o rs⟩) ⟨by walk_at "pl lo", hH1⟩ ?_
  clear hH1 H1
  refine TSs.cons ?_
  refine TS.assign (by walk_at "pl st") ?_
  refine TE.callG hC fs.f36 (by kernel_rfl) (by kernel_rfl) ?_
  repeat (walk_at "pl e")
  refine Bin.mod_int (by decide) ?_
  rw [e1]
  refine Item.listN (.mt (vs := rs.map rowW) (by simp)) (by (clear hT t1 t2 lP s3 s2 s1 gs r3 r2 r1 gr e3 e2 e1 hj3 hj2 hj1 hq hrs aP aR hro hC C F fd hm hb X hx fs a36 a35 a34 a33 a32 a31 a30 a29 a28 a27 a26 a24 a23 a22 a21 a20 a18 a17 a16 a15 a12 a10 a g T s r j3 j2 j1 q x o xs; (first | lia | omega))) (u := rowW r) (by rw [List.getElem?_map, gr]; rfl) ?_
  repeat (walk_at "pl e")
  refine Bin.fdiv_int (by decide) (PyProof.noPylong_of_log2 (by decide +kernel)) ?_
  repeat (walk_at "pl e")
  refine Bin.mod_int (by decide) ?_
  rw [e2]
  refine Item.listN (.mt (vs := rs.map rowW) (by simp)) (by (clear hT t1 t2 lP s3 s2 s1 gs r3 r2 r1 gr e3 e2 e1 hj3 hj2 hj1 hq hrs aP aR hro hC C F fd hm hb X hx fs a36 a35 a34 a33 a32 a31 a30 a29 a28 a27 a26 a24 a23 a22 a21 a20 a18 a17 a16 a15 a12 a10 a g T s r j3 j2 j1 q x o xs; (first | lia | omega))) (u := rowW s) (by rw [List.getElem?_map, gs]; rfl) ?_
  repeat (walk_at "pl e")
  refine CallV.fnI hC (twin_ok fs r1 s1 r2 s2 r3 fun ds g1 g2 => ?_) (by decide)
  rw [← hq, ← hT] at g2
  clear hT hq
  subst g2
  refine TSs.le (σ' := ⟨[("octets", .bool o), ("rows", .ref aR), ("paths", .ref aP), ("q", .int q), ("told", .lst ((ds.map spR).map (.txt o))), ("due", .lst (ds.map rowW))], L12 aP aR o rs⟩) ⟨by walk_at "pl lo", List.Sublist.refl _⟩ ?_
  rw [List.length_map] at t1
  have dg : ∀ d ∈ ds, GoodR d ∧ (spR d).length ≤ 900 ∧ ∀ c ∈ spR d, c < 256 := fun d hd => ⟨g1 d hd, t2 _ (List.mem_map_of_mem hd)⟩
  clear g1 t2 gr r1 r2 r3 gs s1 s2 s3 r s lP lR e1 hj1 j1 x
  have lT : ((ds.map spR).map (V.txt o)).length = ds.length := by rw [List.length_map, List.length_map]
  have lD : (ds.map rowW).length = ds.length := List.length_map ..
  refine TSs.cons ?_
  repeat (walk_at "pl e")
  refine TE.listcompF hC (by walk_at "pl comp") ?_
  repeat (walk_at "pl e")
  refine ⟨Row, ds, rowW, fun r => some (.txt o (spR r)), [("octets", .bool o)], L12 aP aR o rs, _, Walk.lst, fun _ _ => trivial, List.Sublist.refl _, by walk_at "pl lf", by (clear dg e3 e2 hj3 hj2 hrs rs aP aR hro hC C F fd hm hb X hx fs a36 a35 a34 a33 a32 a31 a30 a29 a28 a27 a26 a24 a23 a22 a21 a20 a18 a17 a16 a15 a12 a10 a g j3 j2 q xs lD lT o; (first | lia | omega)), ?_, ?_⟩
  · intro C' hC' r hr
    obtain ⟨g1, g2, g3⟩ := dg r hr
    refine TAs.name (hC'.stL (by kernel_rfl)) ?_
    refine TIfs.nil ?_
    refine ite_t rfl ?_
    refine TE.callG hC' fs.f26 (by kernel_rfl) (by kernel_rfl) ?_
    refine TArgs.consR rfl ?_
    refine TE.callG hC' fs.f29 (by kernel_rfl) (by kernel_rfl) ?_
    repeat (walk_at "pl e")
    refine CallV.fnI hC' (spelled_ok fs.f29 hb (good_small g1 g2) ?_) (by decide)
    repeat (walk_at "pl e")
    refine CallV.fnI hC' (kind_ok fs.f26 hb (by (clear g3 g1 hr hC' C' lD lT dg t1 e3 e2 hj3 hj2 hrs rs aP aR hro hC C F fd hm hb X hx fs a36 a35 a34 a33 a32 a31 a30 a29 a28 a27 a26 a24 a23 a22 a21 a20 a18 a17 a16 a15 a12 a10 a g ds j3 j2 q o xs; (first | lia | omega))) g3 ?_) (by decide)
    exact ⟨rfl, by walk_at "pl lo", List.Sublist.refl _⟩
  rw [filterMap_some, show (ds.map fun r => V.txt o (spR r)) = (ds.map spR).map (.txt o) from by rw [List.map_map]; rfl]
  refine Cmp.neL (.fz _) (.fz _) (EqRs.txts o _ _) ?_
  refine ⟨_, rfl, ?_⟩
  rw [beq_self_eq_true]
  refine ite_f (by decide) ?_
  refine TSs.nil ?_
  refine TSs.cons ?_
  refine TS.for_ hC.calm ?_
  repeat (walk_at "pl e")
  refine call_len_list (.fz _) (by (clear dg e3 e2 hj3 hj2 hrs rs aP aR hro hC C F fd hm hb X hx fs a36 a35 a34 a33 a32 a31 a30 a29 a28 a27 a26 a24 a23 a22 a21 a20 a18 a17 a16 a15 a12 a10 a g j3 j2 q xs lD; (first | lia | omega))) ?_
  rw [lT]
  refine TArgs.nil ?_
  refine call_range1 ?_
  refine ⟨_, _, Walk.rngN (by (clear dg e3 e2 hj3 hj2 hrs rs aP aR hro hC C F fd hm hb X hx fs a36 a35 a34 a33 a32 a31 a30 a29 a28 a27 a26 a24 a23 a22 a21 a20 a18 a17 a16 a15 a12 a10 a g j3 j2 q xs lD lT o; (first | lia | omega))), fun i σ => ∃ rs, RowsOK rs ∧ Le ⟨[("octets", .bool o), ("rows", .ref aR), ("paths", .ref aP), ("q", .int q), ("told", .lst ((ds.map spR).map (.txt o))), ("due", .lst (ds.map rowW))], L12 aP aR o rs⟩ σ, ⟨rs, hrs, by walk_at "pl lo", List.Sublist.refl _⟩, fun _ _ _ => trivial, ?_, ?_⟩
  rotate_left
  · rintro σ ⟨rs, hrs, hle⟩
    refine TSs.nil (TSs.nil ?_)
    exact ⟨rs, hrs, Le.trans (b := ⟨[("octets", .bool o), ("rows", .ref aR), ("paths", .ref aP), ("q", .int q), ("told", .lst ((ds.map spR).map (.txt o))), ("due", .lst (ds.map rowW))], L12 aP aR o rs⟩) ⟨by walk_at "pl lo", List.Sublist.refl _⟩ hle⟩
  clear hrs rs
  rintro k u σ hu ⟨rs, hrs, hle⟩
  obtain ⟨hk, hu⟩ := range_item hu
  subst hu
  obtain ⟨d, hd⟩ : ∃ d, ds[k]? = some d := ⟨_, List.getElem?_eq_getElem hk⟩
  obtain ⟨d1, d2, d3⟩ := dg d (List.mem_of_getElem? hd)
  have hdT : ((ds.map spR).map (V.txt o))[k]? = some (.txt o (spR d)) := by rw [List.getElem?_map, List.getElem?_map, hd]; rfl
  have hdR : (ds.map rowW)[k]? = some (rowW d) := by rw [List.getElem?_map, hd]; rfl
  have lP : (rs.map fun r => V.txt o (spR r)).length = 4 := by rw [List.length_map, hrs.len]
  have lR : (rs.map rowW).length = 4 := by rw [List.length_map, hrs.len]
  refine TAs.name (by walk_at "pl st") ?_
  refine TSs.le hle.both ?_
  clear hle
  refine TSs.cons ?_
  repeat (walk_at "pl e")
  refine Item.listN (.fz _) (by (clear lR lP hdR hdT d3 d2 d1 hd hu hk hrs σ dg e3 e2 hj3 hj2 aP aR hro hC C F fd hm hb X hx fs a36 a35 a34 a33 a32 a31 a30 a29 a28 a27 a26 a24 a23 a22 a21 a20 a18 a17 a16 a15 a12 a10 a g d rs k j3 j2 q xs lD; (first | lia | omega))) hdT ?_
  repeat (walk_at "pl e")
  refine call_len_txt (by (clear lR lP hdR hdT d3 d1 hd hu hk hrs σ lD lT dg t1 e3 e2 hj3 hj2 aP aR hro hC C F fd hm hb X hx fs a36 a35 a34 a33 a32 a31 a30 a29 a28 a27 a26 a24 a23 a22 a21 a20 a18 a17 a16 a15 a12 a10 a g rs k ds j3 j2 q o xs; (first | lia | omega))) ?_
  repeat (walk_at "pl e")
  refine ite_b (fun c => ?_) (fun c => ?_)
  rotate_left
  · refine TSs.nil (TSs.nil ?_)
    exact ⟨rs, hrs, by walk_at "pl lo", List.Sublist.refl _⟩
  replace c : (spR d).length ≤ 12 := by have := of_decide_eq_true c; (clear c lR lP hdR hdT d3 d1 hd hu hk hrs σ lD lT dg t1 e3 e2 hj3 hj2 aP aR hro hC C F fd hm hb X hx fs a36 a35 a34 a33 a32 a31 a30 a29 a28 a27 a26 a24 a23 a22 a21 a20 a18 a17 a16 a15 a12 a10 a g rs k ds j3 j2 q o xs d2; (first | lia | omega))
  refine TSs.cons ?_
  refine TS.assign (by walk_at "pl st") ?_
  refine TE.cut (P := fun v σ' => ∃ j : Nat, j < 4 ∧ v = .int (j : Int) ∧ Le ⟨[("octets", .bool o), ("rows", .ref aR), ("paths", .ref aP), ("q", .int q), ("told", .lst ((ds.map spR).map (.txt o))), ("due", .lst (ds.map rowW)), ("k", .int (k : Int))], L12 aP aR o rs⟩ σ') ?_ ?_
  · repeat (walk_at "pl e")
    refine ite_b (fun c1 => ?_) (fun c1 => ?_)
    · repeat (walk_at "pl e")
      refine Bin.fdiv_int (by decide) (PyProof.noPylong_of_log2 (by decide +kernel)) ?_
      repeat (walk_at "pl e")
      refine Bin.mod_int (by decide) ?_
      exact ⟨j3, hj3, by rw [e3], by walk_at "pl lo", List.Sublist.refl _⟩
    · repeat (walk_at "pl e")
      refine Bin.fdiv_int (by decide) (PyProof.noPylong_of_log2 (by decide +kernel)) ?_
      repeat (walk_at "pl e")
      refine Bin.mod_int (by decide) ?_
      exact ⟨j2, hj2, by rw [e2], by walk_at "pl lo", List.Sublist.refl _⟩
  rintro _ σ' ⟨j, hj, rfl, hle⟩
  refine TSs.le hle.both ?_
  clear hle σ'
  refine TSs.cons ?_
  refine TS.assignTo ?_ rfl rfl (swaps_sub rfl)
  repeat (walk_at "pl e")
  refine Item.listN (.fz _) (by (clear hj c lR lP hdR hdT d3 d2 d1 hd hu hk hrs σ dg e3 e2 hj3 hj2 aP aR hro hC C F fd hm hb X hx fs a36 a35 a34 a33 a32 a31 a30 a29 a28 a27 a26 a24 a23 a22 a21 a20 a18 a17 a16 a15 a12 a10 a g j d rs k j3 j2 q xs lD; (first | lia | omega))) hdT ?_
  repeat (walk_at "pl e")
  refine Item.listN (.fz _) (by (clear hj c lR lP hdR hdT d3 d2 d1 hd hu hk hrs σ dg e3 e2 hj3 hj2 aP aR hro hC C F fd hm hb X hx fs a36 a35 a34 a33 a32 a31 a30 a29 a28 a27 a26 a24 a23 a22 a21 a20 a18 a17 a16 a15 a12 a10 a g j d rs k j3 j2 q xs lT o; (first | lia | omega))) hdR ?_
  repeat (walk_at "pl e")
  refine ⟨by simp, ?_⟩
  refine TAs.tuple hC.calm rfl ?_
  refine TIn.cons (TAs.sub ?_) rfl
  repeat (walk_at "pl e")
  refine Put.led .head (by (clear hj c lR hdR hdT d3 d2 d1 hd hu hk hrs σ lD lT dg t1 e3 e2 hj3 hj2 aP aR hro hC C F fd hm hb X hx fs a36 a35 a34 a33 a32 a31 a30 a29 a28 a27 a26 a24 a23 a22 a21 a20 a18 a17 a16 a15 a12 a10 a g j d k ds j3 j2 q xs; (first | lia | omega))) (by (clear c lR hdR hdT d3 d2 d1 hd hu hk hrs σ lD lT dg t1 e3 e2 hj3 hj2 aP aR hro hC C F fd hm hb X hx fs a36 a35 a34 a33 a32 a31 a30 a29 a28 a27 a26 a24 a23 a22 a21 a20 a18 a17 a16 a15 a12 a10 a g d k ds j3 j2 q xs; (first | lia | omega))) ?_
  refine TIn.cons (TAs.sub ?_) rfl
  repeat (walk_at "pl e")
  refine Put.led (.tail .head) (by (clear hj c lP hdR hdT d3 d2 d1 hd hu hk hrs σ lD lT dg t1 e3 e2 hj3 hj2 aP aR hro hC C F fd hm hb X hx fs a36 a35 a34 a33 a32 a31 a30 a29 a28 a27 a26 a24 a23 a22 a21 a20 a18 a17 a16 a15 a12 a10 a g j d k ds j3 j2 q o xs; (first | lia | omega))) (by (clear c lP hdR hdT d3 d2 d1 hd hu hk hrs σ lD lT dg t1 e3 e2 hj3 hj2 aP aR hro hC C F fd hm hb X hx fs a36 a35 a34 a33 a32 a31 a30 a29 a28 a27 a26 a24 a23 a22 a21 a20 a18 a17 a16 a15 a12 a10 a g d k ds j3 j2 q o xs; (first | lia | omega))) ?_
  refine TIn.nil ?_
  refine TSs.nil (TSs.nil ?_)
  refine ⟨rs.set j d, hrs.set ⟨d1, c, d3⟩, by walk_at "pl lo", ?_⟩
  show List.Sublist (L12 aP aR o (rs.set j d)) _
  unfold L12
  rw [List.map_set, List.map_set]
  exact List.Sublist.refl _
end PL

end
open PySem PyProof.Rows
set_option Elab.async false
namespace PL
open PySem.Calls
theorem plain_10 : Plain (recAt P12 10) := by constructor <;> decide +kernel
theorem bind_10 : ∀ (pm code doc : Value) (xs : List Value), xs.length = (parsAt P12 10).length → bindArgs (docDef (recAt P12 10).name (recAt P12 10).params (recAt P12 10).body (recAt P12 10).scope pm code doc) ⟨xs, []⟩ = pure ((parsAt P12 10).zip xs) := by
  intro pm code doc xs h
  have e : (parsAt P12 10).length = 1 := by kernel_rfl
  rw [e] at h
  obtain ⟨x, rfl⟩ := List.length_eq_one_iff.mp h
  kernel_rfl
theorem plain_12 : Plain (recAt P12 12) := by constructor <;> decide +kernel
theorem bind_12 : ∀ (pm code doc : Value) (xs : List Value), xs.length = (parsAt P12 12).length → bindArgs (docDef (recAt P12 12).name (recAt P12 12).params (recAt P12 12).body (recAt P12 12).scope pm code doc) ⟨xs, []⟩ = pure ((parsAt P12 12).zip xs) := by
  intro pm code doc xs h
  have e : (parsAt P12 12).length = 4 := by kernel_rfl
  rw [e] at h
  obtain ⟨x, y, z, w, rfl⟩ := len_four h
  kernel_rfl
theorem plain_15 : Plain (recAt P12 15) := by constructor <;> decide +kernel
theorem bind_15 : ∀ (pm code doc : Value) (xs : List Value), xs.length = (parsAt P12 15).length → bindArgs (docDef (recAt P12 15).name (recAt P12 15).params (recAt P12 15).body (recAt P12 15).scope pm code doc) ⟨xs, []⟩ = pure ((parsAt P12 15).zip xs) := by
  intro pm code doc xs h
  have e : (parsAt P12 15).length = 1 := by kernel_rfl
  rw [e] at h
  obtain ⟨x, rfl⟩ := List.length_eq_one_iff.mp h
  kernel_rfl
theorem plain_16 : PlainS (recAt P12 16) := by constructor <;> decide +kernel
theorem bind_16 : ∀ (pm code doc : Value) (xs : List Value), (parsAt P12 16).length ≤ xs.length → bindArgs (docDef (recAt P12 16).name (recAt P12 16).params (recAt P12 16).body (recAt P12 16).scope pm code doc) ⟨xs, []⟩ = (PySem.newTuple (xs.drop (parsAt P12 16).length) >>= fun t => pure ((parsAt P12 16).zip xs ++ [(starAt P12 16, t)])) := by
  intro pm code doc xs h
  have e : (parsAt P12 16).length = 1 := by kernel_rfl
  rw [e] at h ⊢
  match xs, h with
  | [x], _ => kernel_rfl
  | x :: y :: r, _ => kernel_rfl
theorem plain_17 : Plain (recAt P12 17) := by constructor <;> decide +kernel
theorem bind_17 : ∀ (pm code doc : Value) (xs : List Value), xs.length = (parsAt P12 17).length → bindArgs (docDef (recAt P12 17).name (recAt P12 17).params (recAt P12 17).body (recAt P12 17).scope pm code doc) ⟨xs, []⟩ = pure ((parsAt P12 17).zip xs) := by
  intro pm code doc xs h
  have e : (parsAt P12 17).length = 1 := by kernel_rfl
  rw [e] at h
  obtain ⟨x, rfl⟩ := List.length_eq_one_iff.mp h
  kernel_rfl
theorem plain_18 : Plain (recAt P12 18) := by constructor <;> decide +kernel
theorem bind_18 : ∀ (pm code doc : Value) (xs : List Value), xs.length = (parsAt P12 18).length → bindArgs (docDef (recAt P12 18).name (recAt P12 18).params (recAt P12 18).body (recAt P12 18).scope pm code doc) ⟨xs, []⟩ = pure ((parsAt P12 18).zip xs) := by
  intro pm code doc xs h
  have e : (parsAt P12 18).length = 1 := by kernel_rfl
  rw [e] at h
  obtain ⟨x, rfl⟩ := List.length_eq_one_iff.mp h
  kernel_rfl
theorem plain_20 : Plain (recAt P12 20) := by constructor <;> decide +kernel
theorem bind_20 : ∀ (pm code doc : Value) (xs : List Value), xs.length = (parsAt P12 20).length → bindArgs (docDef (recAt P12 20).name (recAt P12 20).params (recAt P12 20).body (recAt P12 20).scope pm code doc) ⟨xs, []⟩ = pure ((parsAt P12 20).zip xs) := by
  intro pm code doc xs h
  have e : (parsAt P12 20).length = 1 := by kernel_rfl
  rw [e] at h
  obtain ⟨x, rfl⟩ := List.length_eq_one_iff.mp h
  kernel_rfl
theorem plain_21 : Plain (recAt P12 21) := by constructor <;> decide +kernel
theorem bind_21 : ∀ (pm code doc : Value) (xs : List Value), xs.length = (parsAt P12 21).length → bindArgs (docDef (recAt P12 21).name (recAt P12 21).params (recAt P12 21).body (recAt P12 21).scope pm code doc) ⟨xs, []⟩ = pure ((parsAt P12 21).zip xs) := by
  intro pm code doc xs h
  have e : (parsAt P12 21).length = 1 := by kernel_rfl
  rw [e] at h
  obtain ⟨x, rfl⟩ := List.length_eq_one_iff.mp h
  kernel_rfl
theorem plain_22 : Plain (recAt P12 22) := by constructor <;> decide +kernel
theorem bind_22 : ∀ (pm code doc : Value) (xs : List Value), xs.length = (parsAt P12 22).length → bindArgs (docDef (recAt P12 22).name (recAt P12 22).params (recAt P12 22).body (recAt P12 22).scope pm code doc) ⟨xs, []⟩ = pure ((parsAt P12 22).zip xs) := by
  intro pm code doc xs h
  have e : (parsAt P12 22).length = 1 := by kernel_rfl
  rw [e] at h
  obtain ⟨x, rfl⟩ := List.length_eq_one_iff.mp h
  kernel_rfl
theorem plain_23 : Plain (recAt P12 23) := by constructor <;> decide +kernel
theorem bind_23 : ∀ (pm code doc : Value) (xs : List Value), xs.length = (parsAt P12 23).length → bindArgs (docDef (recAt P12 23).name (recAt P12 23).params (recAt P12 23).body (recAt P12 23).scope pm code doc) ⟨xs, []⟩ = pure ((parsAt P12 23).zip xs) := by
  intro pm code doc xs h
  have e : (parsAt P12 23).length = 1 := by kernel_rfl
  rw [e] at h
  obtain ⟨x, rfl⟩ := List.length_eq_one_iff.mp h
  kernel_rfl
theorem plain_24 : Plain (recAt P12 24) := by constructor <;> decide +kernel
theorem bind_24 : ∀ (pm code doc : Value) (xs : List Value), xs.length = (parsAt P12 24).length → bindArgs (docDef (recAt P12 24).name (recAt P12 24).params (recAt P12 24).body (recAt P12 24).scope pm code doc) ⟨xs, []⟩ = pure ((parsAt P12 24).zip xs) := by
  intro pm code doc xs h
  have e : (parsAt P12 24).length = 1 := by kernel_rfl
  rw [e] at h
  obtain ⟨x, rfl⟩ := List.length_eq_one_iff.mp h
  kernel_rfl
theorem plain_26 : Plain (recAt P12 26) := by constructor <;> decide +kernel
theorem bind_26 : ∀ (pm code doc : Value) (xs : List Value), xs.length = (parsAt P12 26).length → bindArgs (docDef (recAt P12 26).name (recAt P12 26).params (recAt P12 26).body (recAt P12 26).scope pm code doc) ⟨xs, []⟩ = pure ((parsAt P12 26).zip xs) := by
  intro pm code doc xs h
  have e : (parsAt P12 26).length = 2 := by kernel_rfl
  rw [e] at h
  obtain ⟨x, y, rfl⟩ := len_two h
  kernel_rfl
theorem plain_27 : Plain (recAt P12 27) := by constructor <;> decide +kernel
theorem bind_27 : ∀ (pm code doc : Value) (xs : List Value), xs.length = (parsAt P12 27).length → bindArgs (docDef (recAt P12 27).name (recAt P12 27).params (recAt P12 27).body (recAt P12 27).scope pm code doc) ⟨xs, []⟩ = pure ((parsAt P12 27).zip xs) := by
  intro pm code doc xs h
  have e : (parsAt P12 27).length = 1 := by kernel_rfl
  rw [e] at h
  obtain ⟨x, rfl⟩ := List.length_eq_one_iff.mp h
  kernel_rfl
theorem plain_28 : Plain (recAt P12 28) := by constructor <;> decide +kernel
theorem bind_28 : ∀ (pm code doc : Value) (xs : List Value), xs.length = (parsAt P12 28).length → bindArgs (docDef (recAt P12 28).name (recAt P12 28).params (recAt P12 28).body (recAt P12 28).scope pm code doc) ⟨xs, []⟩ = pure ((parsAt P12 28).zip xs) := by
  intro pm code doc xs h
  have e : (parsAt P12 28).length = 4 := by kernel_rfl
  rw [e] at h
  obtain ⟨x, y, z, w, rfl⟩ := len_four h
  kernel_rfl
theorem plain_29 : Plain (recAt P12 29) := by constructor <;> decide +kernel
theorem bind_29 : ∀ (pm code doc : Value) (xs : List Value), xs.length = (parsAt P12 29).length → bindArgs (docDef (recAt P12 29).name (recAt P12 29).params (recAt P12 29).body (recAt P12 29).scope pm code doc) ⟨xs, []⟩ = pure ((parsAt P12 29).zip xs) := by
  intro pm code doc xs h
  have e : (parsAt P12 29).length = 1 := by kernel_rfl
  rw [e] at h
  obtain ⟨x, rfl⟩ := List.length_eq_one_iff.mp h
  kernel_rfl
theorem plain_30 : Plain (recAt P12 30) := by constructor <;> decide +kernel
theorem bind_30 : ∀ (pm code doc : Value) (xs : List Value), xs.length = (parsAt P12 30).length → bindArgs (docDef (recAt P12 30).name (recAt P12 30).params (recAt P12 30).body (recAt P12 30).scope pm code doc) ⟨xs, []⟩ = pure ((parsAt P12 30).zip xs) := by
  intro pm code doc xs h
  have e : (parsAt P12 30).length = 2 := by kernel_rfl
  rw [e] at h
  obtain ⟨x, y, rfl⟩ := len_two h
  kernel_rfl
theorem plain_31 : Plain (recAt P12 31) := by constructor <;> decide +kernel
theorem bind_31 : ∀ (pm code doc : Value) (xs : List Value), xs.length = (parsAt P12 31).length → bindArgs (docDef (recAt P12 31).name (recAt P12 31).params (recAt P12 31).body (recAt P12 31).scope pm code doc) ⟨xs, []⟩ = pure ((parsAt P12 31).zip xs) := by
  intro pm code doc xs h
  have e : (parsAt P12 31).length = 1 := by kernel_rfl
  rw [e] at h
  obtain ⟨x, rfl⟩ := List.length_eq_one_iff.mp h
  kernel_rfl
theorem plain_32 : Plain (recAt P12 32) := by constructor <;> decide +kernel
theorem bind_32 : ∀ (pm code doc : Value) (xs : List Value), xs.length = (parsAt P12 32).length → bindArgs (docDef (recAt P12 32).name (recAt P12 32).params (recAt P12 32).body (recAt P12 32).scope pm code doc) ⟨xs, []⟩ = pure ((parsAt P12 32).zip xs) := by
  intro pm code doc xs h
  have e : (parsAt P12 32).length = 1 := by kernel_rfl
  rw [e] at h
  obtain ⟨x, rfl⟩ := List.length_eq_one_iff.mp h
  kernel_rfl
theorem plain_33 : Plain (recAt P12 33) := by constructor <;> decide +kernel
theorem bind_33 : ∀ (pm code doc : Value) (xs : List Value), xs.length = (parsAt P12 33).length → bindArgs (docDef (recAt P12 33).name (recAt P12 33).params (recAt P12 33).body (recAt P12 33).scope pm code doc) ⟨xs, []⟩ = pure ((parsAt P12 33).zip xs) := by
  intro pm code doc xs h
  have e : (parsAt P12 33).length = 2 := by kernel_rfl
  rw [e] at h
  obtain ⟨x, y, rfl⟩ := len_two h
  kernel_rfl
theorem plain_34 : Plain (recAt P12 34) := by constructor <;> decide +kernel
theorem bind_34 : ∀ (pm code doc : Value) (xs : List Value), xs.length = (parsAt P12 34).length → bindArgs (docDef (recAt P12 34).name (recAt P12 34).params (recAt P12 34).body (recAt P12 34).scope pm code doc) ⟨xs, []⟩ = pure ((parsAt P12 34).zip xs) := by
  intro pm code doc xs h
  have e : (parsAt P12 34).length = 1 := by kernel_rfl
  rw [e] at h
  obtain ⟨x, rfl⟩ := List.length_eq_one_iff.mp h
  kernel_rfl
theorem plain_35 : Plain (recAt P12 35) := by constructor <;> decide +kernel
theorem bind_35 : ∀ (pm code doc : Value) (xs : List Value), xs.length = (parsAt P12 35).length → bindArgs (docDef (recAt P12 35).name (recAt P12 35).params (recAt P12 35).body (recAt P12 35).scope pm code doc) ⟨xs, []⟩ = pure ((parsAt P12 35).zip xs) := by
  intro pm code doc xs h
  have e : (parsAt P12 35).length = 1 := by kernel_rfl
  rw [e] at h
  obtain ⟨x, rfl⟩ := List.length_eq_one_iff.mp h
  kernel_rfl
theorem plain_36 : Plain (recAt P12 36) := by constructor <;> decide +kernel
theorem bind_36 : ∀ (pm code doc : Value) (xs : List Value), xs.length = (parsAt P12 36).length → bindArgs (docDef (recAt P12 36).name (recAt P12 36).params (recAt P12 36).body (recAt P12 36).scope pm code doc) ⟨xs, []⟩ = pure ((parsAt P12 36).zip xs) := by
  intro pm code doc xs h
  have e : (parsAt P12 36).length = 3 := by kernel_rfl
  rw [e] at h
  obtain ⟨x, y, z, rfl⟩ := len_three h
  kernel_rfl
theorem plain_37 : Plain (recAt P12 37) := by constructor <;> decide +kernel
theorem bind_37 : ∀ (pm code doc : Value) (xs : List Value), xs.length = (parsAt P12 37).length → bindArgs (docDef (recAt P12 37).name (recAt P12 37).params (recAt P12 37).body (recAt P12 37).scope pm code doc) ⟨xs, []⟩ = pure ((parsAt P12 37).zip xs) := by
  intro pm code doc xs h
  have e : (parsAt P12 37).length = 1 := by kernel_rfl
  rw [e] at h
  obtain ⟨x, rfl⟩ := List.length_eq_one_iff.mp h
  kernel_rfl
end PL
namespace PL.hq
theorem tw10150055274617212891 : True := trivial
theorem tw10234070408624757834 : True := trivial
theorem tw10279556108671549531 : True := trivial
theorem tw10322038092850174362 : True := trivial
theorem tw10347994459002050219 : True := trivial
theorem tw10457168521209027674 : True := trivial
theorem tw10578125417638283357 : True := trivial
theorem tw10653570856421644076 : True := trivial
theorem tw10723393570628874552 : True := trivial
theorem tw10881528782123092746 : True := trivial
theorem tw10931295464393272181 : True := trivial
theorem tw10940537674685882115 : True := trivial
theorem tw10964283332173260830 : True := trivial
theorem tw10967938621086941891 : True := trivial
theorem tw10994886041549457264 : True := trivial
theorem tw11000781819815587137 : True := trivial
theorem tw11050542447785054316 : True := trivial
theorem tw11195717029766657026 : True := trivial
theorem tw11244646774664661130 : True := trivial
theorem tw11372414994673426273 : True := trivial
theorem tw116285552138952347 : True := trivial
theorem tw11643923109651329364 : True := trivial
theorem tw11788693337944003873 : True := trivial
theorem tw11836785537052509889 : True := trivial
theorem tw11908810259791006522 : True := trivial
theorem tw11964730818847745849 : True := trivial
theorem tw12005465353942320143 : True := trivial
theorem tw12056519460832690200 : True := trivial
theorem tw12208854670899752122 : True := trivial
theorem tw12255650372296710392 : True := trivial
theorem tw12332524910606763528 : True := trivial
theorem tw1235482344641824276 : True := trivial
theorem tw12523848078997984307 : True := trivial
theorem tw12572362154380331464 : True := trivial
theorem tw12608875732773324691 : True := trivial
theorem tw12655837293742700098 : True := trivial
theorem tw12709492719501962588 : True := trivial
theorem tw12772275578942101874 : True := trivial
theorem tw12813963863009017322 : True := trivial
theorem tw12898672296483154566 : True := trivial
theorem tw13074736809216784133 : True := trivial
theorem tw13136604745536518912 : True := trivial
theorem tw13154545043853268745 : True := trivial
theorem tw13176470954537258459 : True := trivial
theorem tw13235798161960342647 : True := trivial
theorem tw13493806150206681168 : True := trivial
theorem tw13549075360943805026 : True := trivial
theorem tw13558592959378445677 : True := trivial
theorem tw13612596976413304410 : True := trivial
theorem tw13712366287616982736 : True := trivial
theorem tw13811128549203767365 : True := trivial
theorem tw1395011816728805360 : True := trivial
theorem tw1404207210524774477 : True := trivial
theorem tw14044590704093121638 : True := trivial
theorem tw14048851767029225131 : True := trivial
theorem tw14050127396031851777 : True := trivial
theorem tw14305025143352681810 : True := trivial
theorem tw14341625433146122062 : True := trivial
theorem tw14349765079874202331 : True := trivial
theorem tw14404082607544834272 : True := trivial
theorem tw14433525500802331082 : True := trivial
theorem tw14502253293019681933 : True := trivial
theorem tw14572987325338728267 : True := trivial
theorem tw14580355645186744840 : True := trivial
theorem tw14643262668230756287 : True := trivial
theorem tw14743200257444633495 : True := trivial
theorem tw14782969899475878510 : True := trivial
theorem tw14797776150870842120 : True := trivial
theorem tw14976034971081853921 : True := trivial
theorem tw15046177968171338842 : True := trivial
theorem tw15311886777180498106 : True := trivial
theorem tw15386443710878551626 : True := trivial
theorem tw15546069523801623265 : True := trivial
theorem tw15554228631916190306 : True := trivial
theorem tw1556061021221708962 : True := trivial
theorem tw15725791419831589203 : True := trivial
theorem tw15861407908351254132 : True := trivial
theorem tw15898698688588041869 : True := trivial
theorem tw16019180303352569947 : True := trivial
theorem tw16070487579171561291 : True := trivial
theorem tw16087190502897549907 : True := trivial
theorem tw16087302329419769766 : True := trivial
theorem tw16113907664991970313 : True := trivial
theorem tw16318831607075985739 : True := trivial
theorem tw1637132607413393259 : True := trivial
theorem tw16383789019776456777 : True := trivial
theorem tw16392860424041057560 : True := trivial
theorem tw16423867238321436432 : True := trivial
theorem tw16439145762317160429 : True := trivial
theorem tw16492304627052442508 : True := trivial
theorem tw1666759469870611197 : True := trivial
theorem tw16748405810643498498 : True := trivial
theorem tw16954096959209456542 : True := trivial
theorem tw17292527579582217065 : True := trivial
theorem tw17385372484413650039 : True := trivial
theorem tw17465745038176259728 : True := trivial
theorem tw17607666369410021155 : True := trivial
theorem tw17656373983050842642 : True := trivial
theorem tw17730446826199742524 : True := trivial
theorem tw17816518351896391959 : True := trivial
theorem tw17951599353509457776 : True := trivial
theorem tw18087018922417264013 : True := trivial
theorem tw18101516308723118010 : True := trivial
theorem tw18110960777793250988 : True := trivial
theorem tw18121447135383459017 : True := trivial
theorem tw18137857242630556044 : True := trivial
theorem tw18205080079955519530 : True := trivial
theorem tw18208495566871879999 : True := trivial
theorem tw18376927660453186172 : True := trivial
theorem tw1875246229275773624 : True := trivial
theorem tw1962460341854704622 : True := trivial
theorem tw2062502449132054020 : True := trivial
theorem tw2176592581420044181 : True := trivial
theorem tw2224419628296556602 : True := trivial
theorem tw2239135016466521070 : True := trivial
theorem tw2313291560772457757 : True := trivial
theorem tw2336797924540617626 : True := trivial
theorem tw2384028385332417888 : True := trivial
theorem tw2404065056368625825 : True := trivial
theorem tw2454452068462306114 : True := trivial
theorem tw2601225624711413925 : True := trivial
theorem tw2714198580975757425 : True := trivial
theorem tw2882610297536875833 : True := trivial
theorem tw2923326128349063942 : True := trivial
theorem tw2957082609756199863 : True := trivial
theorem tw313077858295903939 : True := trivial
theorem tw336207630582805764 : True := trivial
theorem tw3366810366122488297 : True := trivial
theorem tw3421163144812235511 : True := trivial
theorem tw354941383861092358 : True := trivial
theorem tw3597111892374550796 : True := trivial
theorem tw3630418350923066436 : True := trivial
theorem tw3658074824146671639 : True := trivial
theorem tw3709096334267753769 : True := trivial
theorem tw375131355600355710 : True := trivial
theorem tw3763901191159952711 : True := trivial
theorem tw3900358186380219256 : True := trivial
theorem tw3970925970340267299 : True := trivial
theorem tw4047368153729165031 : True := trivial
theorem tw4131030150531144260 : True := trivial
theorem tw4186899004787073395 : True := trivial
theorem tw4370512022440838523 : True := trivial
theorem tw4373960808588313479 : True := trivial
theorem tw4395838186047439590 : True := trivial
theorem tw4449349912125202419 : True := trivial
theorem tw4482613243384148480 : True := trivial
theorem tw4576643854983958864 : True := trivial
theorem tw4599710900037758195 : True := trivial
theorem tw4644653492451897822 : True := trivial
theorem tw4710047391621955908 : True := trivial
theorem tw4712760515855164311 : True := trivial
theorem tw4812326722590855885 : True := trivial
theorem tw4860487487080464739 : True := trivial
theorem tw4912002843842931009 : True := trivial
theorem tw4931211677879945270 : True := trivial
theorem tw51812583460785202 : True := trivial
theorem tw5346338207255859092 : True := trivial
theorem tw5564211256190892648 : True := trivial
theorem tw5609975511397640031 : True := trivial
theorem tw5669649538260543787 : True := trivial
theorem tw5724091033786990644 : True := trivial
theorem tw5873892269237603070 : True := trivial
theorem tw5920059566673810287 : True := trivial
theorem tw6018381559509239189 : True := trivial
theorem tw6038042970738412993 : True := trivial
theorem tw6076153066885586418 : True := trivial
theorem tw6278770649022532997 : True := trivial
theorem tw6287004904046801140 : True := trivial
theorem tw6307847100248817038 : True := trivial
theorem tw6359601116336817604 : True := trivial
theorem tw6361921350988449081 : True := trivial
theorem tw6400979593350638597 : True := trivial
theorem tw6403996175028280850 : True := trivial
theorem tw6426164013878419807 : True := trivial
theorem tw6472655386710365660 : True := trivial
theorem tw6591770399717593680 : True := trivial
theorem tw6594513770607075951 : True := trivial
theorem tw6679670714978796538 : True := trivial
theorem tw6685655180452722308 : True := trivial
theorem tw6707203532000522902 : True := trivial
theorem tw6729652084136464301 : True := trivial
theorem tw6738560571093632554 : True := trivial
theorem tw6795441023340180416 : True := trivial
theorem tw6809095355669430329 : True := trivial
theorem tw6891327794774082122 : True := trivial
theorem tw689996689215004385 : True := trivial
theorem tw7117987297330367669 : True := trivial
theorem tw7172115502284585795 : True := trivial
theorem tw7353386008980756413 : True := trivial
theorem tw7376682981359245135 : True := trivial
theorem tw7510321012393329538 : True := trivial
theorem tw7516807648445859729 : True := trivial
theorem tw759594803087790493 : True := trivial
theorem tw7994575294097003007 : True := trivial
theorem tw809245011415832620 : True := trivial
theorem tw8148017953013815605 : True := trivial
theorem tw8156735028019161749 : True := trivial
theorem tw8244119267253919938 : True := trivial
theorem tw8253568312460463149 : True := trivial
theorem tw8258613477998152431 : True := trivial
theorem tw8296919743542932901 : True := trivial
theorem tw8310247521607736231 : True := trivial
theorem tw8349844716706327427 : True := trivial
theorem tw8387202391173974111 : True := trivial
theorem tw8448320729414875279 : True := trivial
theorem tw845083569337076454 : True := trivial
theorem tw8520391810953176657 : True := trivial
theorem tw8608073423325395319 : True := trivial
theorem tw8618902379862786811 : True := trivial
theorem tw8690325802134828165 : True := trivial
theorem tw8824609576461991723 : True := trivial
theorem tw898866642159142188 : True := trivial
theorem tw8997635952957059331 : True := trivial
theorem tw9043558548103874264 : True := trivial
theorem tw9059192860509191631 : True := trivial
theorem tw9096826120843099818 : True := trivial
theorem tw9100329018443281878 : True := trivial
theorem tw9262597400919477278 : True := trivial
theorem tw9274728568418505906 : True := trivial
theorem tw9435091711174853557 : True := trivial
theorem tw9477224725433678709 : True := trivial
theorem tw9517903804782373198 : True := trivial
theorem tw9523118495404018300 : True := trivial
theorem tw9612898263177967027 : True := trivial
theorem tw9644518149450626724 : True := trivial
theorem tw9671905789914693418 : True := trivial
theorem tw9781565010282851077 : True := trivial
theorem tw9794123146945694145 : True := trivial
theorem tw9866279775617001207 : True := trivial
theorem tw9925263663166883926 : True := trivial
theorem tw9952467627992861864 : True := trivial
end PL.hq
open PySem.W
set_option Elab.async true in
set_option maxRecDepth 100000 in
set_option maxHeartbeats 8000000 in
theorem PL.hq : PySem.Challenge.rw_km0084_12.Holds := by
  w_on; o_law; o_head Hook.none; (case hw => w_witness2)
  w_strict (
    k_fill
    intro w s₀ s₁ mg mb G Y fa o pm cd doc dV kV ho hd hcd hD hmg hg args vals as hpre hlay hrd hwl hlo
    refine Ground.open G ?_
    intro T B D TE TW
    try (refine guard_noD D (by decide +kernel) ?_; clear D)
    have hlawname := hmg
    try (obtain ⟨_, _, he, B0⟩ := based_of_top T rfl hmg ho hd; have he' : cd = _ := he; subst he'; clear he)
    wrow_args hpre hlay hrd hwl hlo
    all_goals (
      first | refine callC_kw (enter_call ?_) | refine enter_call ?_ | refine callC_kw (enter_callW ?_) | refine enter_callW ?_ | w_how
      w_top on
      try refine codeAny_mono ?_ (fun _ _ g => GoodW.toG g)
      have hfree : PL.Free (PL.gdOf PySem.Challenge.rw_km0084_12.row.prog w s₁ T) PL.BI := PL.free_of T (by decide +kernel)
      obtain ⟨a10, h10⟩ := PL.fn_of (g := PL.gdOf PySem.Challenge.rw_km0084_12.row.prog w s₁ T) PL.plain_10 PL.bind_10 (T.fn (PL.recAt PL.P12 10) (List.mem_of_getElem? (i := 4) (by kernel_rfl)))
      obtain ⟨a12, h12⟩ := PL.fn_of (g := PL.gdOf PySem.Challenge.rw_km0084_12.row.prog w s₁ T) PL.plain_12 PL.bind_12 (T.fn (PL.recAt PL.P12 12) (List.mem_of_getElem? (i := 5) (by kernel_rfl)))
      obtain ⟨a15, h15⟩ := PL.fn_of (g := PL.gdOf PySem.Challenge.rw_km0084_12.row.prog w s₁ T) PL.plain_15 PL.bind_15 (T.fn (PL.recAt PL.P12 15) (List.mem_of_getElem? (i := 7) (by kernel_rfl)))
      obtain ⟨a16, h16⟩ := PL.fn_ofS (g := PL.gdOf PySem.Challenge.rw_km0084_12.row.prog w s₁ T) PL.plain_16 PL.bind_16 (T.fn (PL.recAt PL.P12 16) (List.mem_of_getElem? (i := 8) (by kernel_rfl)))
      obtain ⟨a17, h17⟩ := PL.fn_of (g := PL.gdOf PySem.Challenge.rw_km0084_12.row.prog w s₁ T) PL.plain_17 PL.bind_17 (T.fn (PL.recAt PL.P12 17) (List.mem_of_getElem? (i := 9) (by kernel_rfl)))
      obtain ⟨a18, h18⟩ := PL.fn_of (g := PL.gdOf PySem.Challenge.rw_km0084_12.row.prog w s₁ T) PL.plain_18 PL.bind_18 (T.fn (PL.recAt PL.P12 18) (List.mem_of_getElem? (i := 10) (by kernel_rfl)))
      obtain ⟨a20, h20⟩ := PL.fn_of (g := PL.gdOf PySem.Challenge.rw_km0084_12.row.prog w s₁ T) PL.plain_20 PL.bind_20 (T.fn (PL.recAt PL.P12 20) (List.mem_of_getElem? (i := 11) (by kernel_rfl)))
      obtain ⟨a21, h21⟩ := PL.fn_of (g := PL.gdOf PySem.Challenge.rw_km0084_12.row.prog w s₁ T) PL.plain_21 PL.bind_21 (T.fn (PL.recAt PL.P12 21) (List.mem_of_getElem? (i := 12) (by kernel_rfl)))
      obtain ⟨a22, h22⟩ := PL.fn_of (g := PL.gdOf PySem.Challenge.rw_km0084_12.row.prog w s₁ T) PL.plain_22 PL.bind_22 (T.fn (PL.recAt PL.P12 22) (List.mem_of_getElem? (i := 13) (by kernel_rfl)))
      obtain ⟨a23, h23⟩ := PL.fn_of (g := PL.gdOf PySem.Challenge.rw_km0084_12.row.prog w s₁ T) PL.plain_23 PL.bind_23 (T.fn (PL.recAt PL.P12 23) (List.mem_of_getElem? (i := 14) (by kernel_rfl)))
      obtain ⟨a24, h24⟩ := PL.fn_of (g := PL.gdOf PySem.Challenge.rw_km0084_12.row.prog w s₁ T) PL.plain_24 PL.bind_24 (T.fn (PL.recAt PL.P12 24) (List.mem_of_getElem? (i := 15) (by kernel_rfl)))
      obtain ⟨a26, h26⟩ := PL.fn_of (g := PL.gdOf PySem.Challenge.rw_km0084_12.row.prog w s₁ T) PL.plain_26 PL.bind_26 (T.fn (PL.recAt PL.P12 26) (List.mem_of_getElem? (i := 16) (by kernel_rfl)))
      obtain ⟨a27, h27⟩ := PL.fn_of (g := PL.gdOf PySem.Challenge.rw_km0084_12.row.prog w s₁ T) PL.plain_27 PL.bind_27 (T.fn (PL.recAt PL.P12 27) (List.mem_of_getElem? (i := 17) (by kernel_rfl)))
      obtain ⟨a28, h28⟩ := PL.fn_of (g := PL.gdOf PySem.Challenge.rw_km0084_12.row.prog w s₁ T) PL.plain_28 PL.bind_28 (T.fn (PL.recAt PL.P12 28) (List.mem_of_getElem? (i := 18) (by kernel_rfl)))
      obtain ⟨a29, h29⟩ := PL.fn_of (g := PL.gdOf PySem.Challenge.rw_km0084_12.row.prog w s₁ T) PL.plain_29 PL.bind_29 (T.fn (PL.recAt PL.P12 29) (List.mem_of_getElem? (i := 19) (by kernel_rfl)))
      obtain ⟨a30, h30⟩ := PL.fn_of (g := PL.gdOf PySem.Challenge.rw_km0084_12.row.prog w s₁ T) PL.plain_30 PL.bind_30 (T.fn (PL.recAt PL.P12 30) (List.mem_of_getElem? (i := 20) (by kernel_rfl)))
      obtain ⟨a31, h31⟩ := PL.fn_of (g := PL.gdOf PySem.Challenge.rw_km0084_12.row.prog w s₁ T) PL.plain_31 PL.bind_31 (T.fn (PL.recAt PL.P12 31) (List.mem_of_getElem? (i := 21) (by kernel_rfl)))
      obtain ⟨a32, h32⟩ := PL.fn_of (g := PL.gdOf PySem.Challenge.rw_km0084_12.row.prog w s₁ T) PL.plain_32 PL.bind_32 (T.fn (PL.recAt PL.P12 32) (List.mem_of_getElem? (i := 22) (by kernel_rfl)))
      obtain ⟨a33, h33⟩ := PL.fn_of (g := PL.gdOf PySem.Challenge.rw_km0084_12.row.prog w s₁ T) PL.plain_33 PL.bind_33 (T.fn (PL.recAt PL.P12 33) (List.mem_of_getElem? (i := 23) (by kernel_rfl)))
      obtain ⟨a34, h34⟩ := PL.fn_of (g := PL.gdOf PySem.Challenge.rw_km0084_12.row.prog w s₁ T) PL.plain_34 PL.bind_34 (T.fn (PL.recAt PL.P12 34) (List.mem_of_getElem? (i := 24) (by kernel_rfl)))
      obtain ⟨a35, h35⟩ := PL.fn_of (g := PL.gdOf PySem.Challenge.rw_km0084_12.row.prog w s₁ T) PL.plain_35 PL.bind_35 (T.fn (PL.recAt PL.P12 35) (List.mem_of_getElem? (i := 25) (by kernel_rfl)))
      obtain ⟨a36, h36⟩ := PL.fn_of (g := PL.gdOf PySem.Challenge.rw_km0084_12.row.prog w s₁ T) PL.plain_36 PL.bind_36 (T.fn (PL.recAt PL.P12 36) (List.mem_of_getElem? (i := 26) (by kernel_rfl)))
      obtain ⟨a37, h37⟩ := PL.fn_of (g := PL.gdOf PySem.Challenge.rw_km0084_12.row.prog w s₁ T) PL.plain_37 PL.bind_37 (T.fn (PL.recAt PL.P12 37) (List.mem_of_getElem? (i := 27) (by kernel_rfl)))
      have hfa : a37 = fa := by
        have e1 := h37.1
        have e2 := hlawname
        have e3 : some (Value.ref a37) = some (Value.ref fa) := e1.symm.trans e2
        cases e3; rfl
      subst hfa
      rename_i hlen63 _
      refine PL.finish T hg (by assumption) ?_ (raisesW_false ?_) ?_
      · refine PL.law12_ok h37 ⟨hfree, h10, h12, h15, h16, h17, h18, h20, h21, h22, h23, h24, h26, h27, h28, h29, h30, h31, h32, h33, h34, h35, h36⟩ ?_
        omega
      · wrow_none_raised
      · wrow_post))
theorem PySem.Challenge.cw_km0084_12_holds : PySem.Challenge.rw_km0084_12.Holds := by
  exact PL.hq


