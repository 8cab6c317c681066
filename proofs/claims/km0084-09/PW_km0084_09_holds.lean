import PyProof.Rows.All
import PyProof.RaisesAny
import PyProof.RulesRaise
import PyProof.ExcFactsAll.TypeError
import PyProof.ExcFactsAll.ValueError
import PyProof.IsiPairs
import PyProof.IsiTupleAll
import PyProof.ListMulAny
import PyProof.Rows.EqDataRows
import PyProof.TupleOfSeq
import PyProof.SetRoads
import Wide.Ends
import KE.KSortAsk
import KE.KSortTup
import Wide.All
import OpenK.AllK
import Wide.FinOn
import PySem.Challenge.RW_km0084_09
set_option compiler.extract_closed false
set_option genSizeOf false
section
open PySem PySem.Calls PyProof.Rows
set_option Elab.async false
set_option linter.unusedVariables false
namespace PL

/-! abstract values -/
inductive V where
  | none
  | bool (b : Bool)
  | int (i : Int)
  | txt (o : Bool) (l : List Nat)
  | tup (vs : List V)
  | lst (vs : List V)
  | ref (a : Addr)
  | con (v : Value)
  | rng (a b c : Int)
  | opq (T : String)

noncomputable abbrev Z := Addr → Option Obj
noncomputable def Z.le (z z' : Z) : Prop := ∀ b o, z b = some o → z' b = some o
theorem Z.le_refl (z : Z) : Z.le z z := fun _ _ h => h
theorem Z.le_trans {a b c : Z} (h : Z.le a b) (k : Z.le b c) : Z.le a c := fun x o e => k x o (h x o e)
noncomputable def Z.put (z : Z) (a : Addr) (o : Obj) : Z := fun b => if b = a then some o else z b

noncomputable abbrev tupO (items : List Value) (n : Nat) : Obj := { cls := .type "tuple", data := .seq items.toArray n }
noncomputable abbrev lstO (items : List Value) (n : Nat) : Obj := { cls := .type "list", data := .seq items.toArray n }

mutual
inductive Rep (z : Z) : V → Value → Prop
  | none : Rep z .none .none
  | bool (b : Bool) : Rep z (.bool b) (.bool b)
  | int (i : Int) (t : Tok) : Rep z (.int i) (.int i t)
  | str (l : List Nat) (t : Tok) : Rep z (.txt false l) (.str ⟨l.toArray⟩ t)
  | bytes (l : List Nat) (t : Tok) (h : ∀ c ∈ l, c < 256) : Rep z (.txt true l) (.bytes (l.map UInt8.ofNat).toArray t)
  | tup {vs : List V} {a : Addr} {items : List Value} {n : Nat} (h : z a = some (tupO items n)) (hr : RepL z vs items) : Rep z (.tup vs) (.ref a)
  | lst {vs : List V} {a : Addr} {items : List Value} {n : Nat} (h : z a = some (lstO items n)) (hr : RepL z vs items) : Rep z (.lst vs) (.ref a)
  | ref (a : Addr) : Rep z (.ref a) (.ref a)
  | con (v : Value) : Rep z (.con v) v
  | rng {x y w : Int} {a : Addr} {t u v : Tok} (h : z a = some { cls := .type "range", dict := none, data := .fields #[.int x t, .int y u, .int w v], slots := #[] }) : Rep z (.rng x y w) (.ref a)
  | opq {T : String} {a : Addr} {o : Obj} (h : z a = some o) (hc : o.cls = .type T) : Rep z (.opq T) (.ref a)
inductive RepL (z : Z) : List V → List Value → Prop
  | nil : RepL z [] []
  | cons {v : V} {x : Value} {vs : List V} {xs : List Value} (h : Rep z v x) (t : RepL z vs xs) : RepL z (v :: vs) (x :: xs)
end

theorem Rep.mono {z z' : Z} (h : Z.le z z') {v : V} {x : Value} (r : Rep z v x) : Rep z' v x :=
  Rep.rec (motive_1 := fun v x _ => Rep z' v x) (motive_2 := fun v x _ => RepL z' v x) .none .bool .int .str .bytes (fun e _ ih => .tup (h _ _ e) ih) (fun e _ ih => .lst (h _ _ e) ih) .ref .con (fun e => .rng (h _ _ e)) (fun e hc => .opq (h _ _ e) hc) .nil (fun _ _ a b => .cons a b) r
theorem RepL.ind {z : Z} {P : List V → List Value → Prop} (nil : P [] []) (cons : ∀ {v : V} {x : Value} {vs : List V} {xs : List Value}, Rep z v x → RepL z vs xs → P vs xs → P (v :: vs) (x :: xs)) {vs : List V} {xs : List Value} (r : RepL z vs xs) : P vs xs :=
  RepL.rec (motive_1 := fun _ _ _ => True) (motive_2 := fun v x _ => P v x) trivial (fun _ => trivial) (fun _ _ => trivial) (fun _ _ => trivial) (fun _ _ _ => trivial) (fun _ _ _ => trivial) (fun _ _ _ => trivial) (fun _ => trivial) (fun _ => trivial) (fun _ => trivial) (fun _ _ => trivial) nil (fun a b _ ih => cons a b ih) r
theorem RepL.mono {z z' : Z} (h : Z.le z z') {v : List V} {x : List Value} (r : RepL z v x) : RepL z' v x :=
  r.ind (P := RepL z') .nil fun a _ ih => .cons (a.mono h) ih
theorem RepL.inv {z : Z} {v : V} {vs : List V} {ys : List Value} (r : RepL z (v :: vs) ys) : ∃ x xs, ys = x :: xs ∧ Rep z v x ∧ RepL z vs xs := by
  cases r with | cons a t => exact ⟨_, _, rfl, a, t⟩
theorem RepL.inv0 {z : Z} {ys : List Value} (r : RepL z [] ys) : ys = [] := by cases r; rfl

/-- what a value looks like -/
noncomputable def RepE (z : Z) : V → Value → Prop
  | .none, x => ∃ _ : Tok, x = .none
  | .bool b, x => ∃ _ : Tok, x = .bool b
  | .int i, x => ∃ t, x = .int i t
  | .txt false l, x => ∃ t, x = .str ⟨l.toArray⟩ t
  | .txt true l, x => ∃ t, x = .bytes (l.map UInt8.ofNat).toArray t ∧ ∀ c ∈ l, c < 256
  | .tup vs, x => ∃ a items n, x = .ref a ∧ z a = some (tupO items n) ∧ RepL z vs items
  | .lst vs, x => ∃ a items n, x = .ref a ∧ z a = some (lstO items n) ∧ RepL z vs items
  | .ref a, x => ∃ _ : Tok, x = .ref a
  | .con v, x => ∃ _ : Tok, x = v
  | .rng i j k, x => ∃ a t u v, x = .ref a ∧ z a = some { cls := .type "range", dict := none, data := .fields #[.int i t, .int j u, .int k v], slots := #[] }
  | .opq T, x => ∃ a o, x = .ref a ∧ z a = some o ∧ o.cls = .type T
theorem Rep.e {z : Z} {v : V} {x : Value} (r : Rep z v x) : RepE z v x :=
  Rep.rec (motive_1 := fun v x _ => RepE z v x) (motive_2 := fun _ _ _ => True) ⟨0, rfl⟩ (fun _ => ⟨0, rfl⟩) (fun _ t => ⟨t, rfl⟩) (fun _ t => ⟨t, rfl⟩) (fun _ t h => ⟨t, rfl, h⟩) (fun h hr _ => ⟨_, _, _, rfl, h, hr⟩) (fun h hr _ => ⟨_, _, _, rfl, h, hr⟩) (fun _ => ⟨0, rfl⟩) (fun _ => ⟨0, rfl⟩) (fun h => ⟨_, _, _, _, rfl, h⟩) (fun h hc => ⟨_, _, rfl, h, hc⟩) trivial (fun _ _ _ _ => trivial) r
theorem Rep.txt_ {z : Z} {o : Bool} {l : List Nat} {x : Value} (r : Rep z (.txt o l) x) : (o = false ∧ ∃ t, x = .str ⟨l.toArray⟩ t) ∨ (o = true ∧ ∃ t, x = .bytes (l.map UInt8.ofNat).toArray t ∧ ∀ c ∈ l, c < 256) := by
  cases o with
  | false => exact .inl ⟨rfl, r.e⟩
  | true => exact .inr ⟨rfl, r.e⟩
theorem RepL.length {z : Z} {vs : List V} {xs : List Value} (r : RepL z vs xs) : xs.length = vs.length :=
  r.ind (P := fun vs xs => xs.length = vs.length) rfl fun _ _ ih => congrArg (· + 1) ih
theorem RepL.append {z : Z} {vs vs' : List V} {xs xs' : List Value} (r : RepL z vs xs) (h : RepL z vs' xs') : RepL z (vs ++ vs') (xs ++ xs') :=
  r.ind (P := fun vs xs => RepL z (vs ++ vs') (xs ++ xs')) h fun a _ ih => .cons a ih
theorem RepL.get {z : Z} {vs : List V} {xs : List Value} (r : RepL z vs xs) : ∀ {i : Nat} {v : V}, vs[i]? = some v → ∃ x, xs[i]? = some x ∧ Rep z v x :=
  r.ind (P := fun vs xs => ∀ {i : Nat} {v : V}, vs[i]? = some v → ∃ x, xs[i]? = some x ∧ Rep z v x) (fun h => nomatch h) fun {_ x _ _} a _ ih {i v} h => by
    cases i with
    | zero => have e := Option.some.inj h; exact ⟨x, rfl, e ▸ a⟩
    | succ i => exact ih h

inductive RepP {K : Type} (z : Z) : List (K × V) → List (K × Value) → Prop
  | nil : RepP z [] []
  | cons {k : K} {v : V} {x : Value} {l : List (K × V)} {m : List (K × Value)} (h : Rep z v x) (t : RepP z l m) : RepP z ((k, v) :: l) ((k, x) :: m)
theorem RepP.mono {K : Type} {z z' : Z} (h : Z.le z z') {l : List (K × V)} {m : List (K × Value)} (r : RepP z l m) : RepP z' l m := by
  induction r with
  | nil => exact .nil
  | cons a _ ih => exact .cons (a.mono h) ih

/-! the live objects of the ledger -/
inductive AO where
  | list (vs : List V)
  | dictS (kvs : List (Str × V))
  | dictI (kvs : List (Int × V))
  | raw (o : Obj)

structure Gd where
  prog : Program
  w : World
  base : Heap
  os : OsState
  mg : Str → Option Value
  mb : Str → Option Value
  hmg : base.Ns mainGlobals mg
  hmb : base.Ns builtinsNs mb
  lim : base.NoLimit
  hbi : ∀ x : Str, x ≠ "__name__" → mb x = bootBuiltins x

noncomputable def strOf (l : List Nat) : Str := ⟨l.toArray⟩

noncomputable def AOK (g : Gd) (z : Z) (h : Heap) (a : Addr) : AO → Prop
  | .list vs => ∃ items n, h.get? a = some (lstO items n) ∧ RepL z vs items
  | .dictS kvs => ∃ ys, h.DictOf (strKind g.prog g.w) a ys ∧ RepP z kvs ys ∧ (a == sysModules) = false
  | .dictI kvs => ∃ ys, h.DictOf (intKind g.prog g.w) a ys ∧ RepP z kvs ys ∧ (a == sysModules) = false
  | .raw o => h.get? a = some o

theorem AOK.mono {g : Gd} {z z' : Z} {h : Heap} {a : Addr} (hz : Z.le z z') {o : AO} (k : AOK g z h a o) : AOK g z' h a o := by
  cases o with
  | list _ => obtain ⟨i, n, x, r⟩ := k; exact ⟨i, n, x, r.mono hz⟩
  | dictS _ => obtain ⟨i, x, r, m⟩ := k; exact ⟨i, x, r.mono hz, m⟩
  | dictI _ => obtain ⟨i, x, r, m⟩ := k; exact ⟨i, x, r.mono hz, m⟩
  | raw _ => exact k
theorem AOK.keep {g : Gd} {z : Z} {h h' : Heap} {a : Addr} (e : ∀ o, h.get? a = some o → h'.get? a = some o) {o : AO} (k : AOK g z h a o) : AOK g z h' a o := by
  cases o with
  | list _ => obtain ⟨i, n, x, r⟩ := k; exact ⟨i, n, e _ x, r⟩
  | dictS _ => obtain ⟨i, ⟨o, es, ep, ho, q⟩, r⟩ := k; exact ⟨i, ⟨o, es, ep, e o ho, q⟩, r⟩
  | dictI _ => obtain ⟨i, ⟨o, es, ep, ho, q⟩, r⟩ := k; exact ⟨i, ⟨o, es, ep, e o ho, q⟩, r⟩
  | raw o => exact e o k

noncomputable abbrev Led := List (Addr × AO)
structure St where
  loc : List (Str × V)
  H : Led

/-- the heap's part of the relation -/
structure RH (g : Gd) (zs : Z) (H : Led) (z : Z) (s : Shared) : Prop where
  hz : ∀ b o, z b = some o → s.heap.get? b = some o
  hbase : ∀ b o, g.base.get? b = some o → z b = some o
  hzs : ∀ b o, zs b = some o → ∃ sl, s.heap.get? b = some { o with slots := sl } ∧ ((∀ vs ep, o.data ≠ .dict vs ep) → sl = o.slots)
  disj : ∀ b o, zs b = some o → z b = none
  hH : ∀ p ∈ H, AOK g z s.heap p.1 p.2 ∧ z p.1 = none ∧ zs p.1 = none
  nodup : (H.map (·.1)).Nodup
  gens : s.gens = #[]
  os : s.os = g.os

structure Cx where
  g : Gd
  A : Around
  env : Env
  outer : List Env
  n : Nat
  ro : List Str := []
  hk : env.scope.kind = .function
  hglob : env.globals = mainGlobals
  hbuilt : env.builtins = builtinsNs
  hdep : A.depth + n ≤ 900
  hunits : A.units + 20 * n ≤ 9000
  hframes : (A.frames = some (env :: outer) ∧ env.frame = some env.locals) ∨ A.frames = some outer
  apart : env.cells.Pairwise fun x y => x.2 ≠ y.2

noncomputable abbrev Cx.M (C : Cx) : Model := model C.g.prog C.g.w

noncomputable def cellish : Option NameKind → Bool
  | some .cell => true
  | some .free => true
  | _ => false

structure FrOK (outer : List Env) (zs : Z) : Prop where
  ok : ∀ e ∈ outer, e.scope.kind ≠ .module ∧ ∃ L o, e.frame = some L ∧ zs L = some o ∧ ∃ es ep, o.data = .dict es ep

structure R (C : Cx) (zs : Z) (σ : St) (z : Z) (s : Shared) : Prop where
  rh : RH C.g zs σ.H z s
  ns : ∃ m, s.heap.Ns C.env.locals m ∧ ∀ x v, σ.loc.lookup x = some v → C.env.kindOf x = some .local → ∃ val, m x = some val ∧ Rep z v val
  cells : ∀ x v, σ.loc.lookup x = some v → cellish (C.env.kindOf x) = true → ∃ c val, C.env.cells.lookup x = some c ∧ s.heap.IsCell c (some val) ∧ Rep z v val
  cellsOk : ∀ p ∈ C.env.cells, (∃ ov, s.heap.IsCell p.2 ov) ∧ z p.2 = none ∧ (zs p.2 = none ∨ p.1 ∈ C.ro) ∧ p.2 ≠ C.env.locals ∧ p.2 ∉ σ.H.map (·.1)
  locFree : z C.env.locals = none ∧ zs C.env.locals = none ∧ C.env.locals ∉ σ.H.map (·.1)
  fr : FrOK C.outer zs

noncomputable abbrev XP := String → St → Prop

/-- an exception in flight: made here, traced, or traced and at this frame -/
noncomputable def MadeIn (h : Heap) (a : Addr) (cls : String) : Prop := ∃ oe vs a0, h.get? a = some oe ∧ oe.cls = .type cls ∧ oe.data = .fields vs ∧ vs[1]? = some .none ∧ vs[0]? = some a0 ∧ vs[2]? = some .none
noncomputable def Track (h B : Heap) (fr : List Env) (a : Addr) (cls : String) : Prop :=
  MadeIn h a cls ∨ (∃ a0, h.TracedW B a (.type cls) a0) ∨ ∃ env rest L a0, fr = env :: rest ∧ env.frame = some L ∧ h.TracedAtW B a (.type cls) a0 (rawInt L)
structure FlyB (g : Gd) (zs : Z) (H : Led) (z : Z) (fr : List Env) (s : Shared) (a : Addr) (cls : String) (B : Heap) : Prop where
  stays : B.StaysIn s.heap
  new : B.get? a = none
  frames : s.heap.FunFrames B fr
  hz : ∀ b o, z b = some o → B.get? b = some o
  led : ∀ p ∈ H, AOK g z B p.1 p.2
  hid : ∀ b o, zs b = some o → (∀ vs ep, o.data ≠ .dict vs ep) → B.get? b = some o
  track : Track s.heap B fr a cls
noncomputable def Fly (g : Gd) (zs : Z) (H : Led) (z : Z) (fr : List Env) (s : Shared) (e : Value) (cls : String) : Prop := ∃ a B, e = .ref a ∧ FlyB g zs H z fr s a cls B

inductive PX (C : Cx) (zs z : Z) (X : XP) (e : Value) (s' : Shared) : Prop
  | mk (z' : Z) (σ' : St) (cls : String) (fr : List Env) (le : Z.le z z') (r : R C zs σ' z' s') (q : C.A.frames = some fr) (f : Fly C.g zs σ'.H z' fr s' e cls) (x : X cls σ')
theorem PX.le {C : Cx} {zs z z1 : Z} {X : XP} {e : Value} {s : Shared} (h : Z.le z z1) (k : PX C zs z1 X e s) : PX C zs z X e s := by
  cases k with | mk z' σ' cls fr l r q f x => exact ⟨z', σ', cls, fr, Z.le_trans h l, r, q, f, x⟩
noncomputable abbrev X0 : XP := fun _ _ => False
theorem PX.absurd {C : Cx} {zs z : Z} {e : Value} {s : Shared} (h : PX C zs z X0 e s) {P : Prop} : P := by
  cases h with | mk z' σ' cls fr l r q f x => exact x.elim

inductive Post {α : Type} (C : Cx) (zs z : Z) (P : Z → α → St → Prop) (a : α) (s' : Shared) : Prop
  | mk (z' : Z) (σ' : St) (le : Z.le z z') (r : R C zs σ' z' s') (p : P z' a σ')
noncomputable def TT {α : Type} (C : Cx) (z₀ : Z) (t : Sem α) (P : Z → α → St → Prop) (X : XP) (σ : St) : Prop :=
  ∀ zs z s, Z.le z₀ z → R C zs σ z s →
    wpAny C.M C.A t (Post C zs z P) (PX C zs z X) s

section
variable {α β : Type} {C : Cx} {z₀ : Z} {X : XP} {σ : St}

theorem TT.bind {m : Sem α} {f : α → Sem β} {P : Z → β → St → Prop} (h : TT C z₀ m (fun z a σ1 => TT C z (f a) P X σ1) X σ) : TT C z₀ (m >>= f) P X σ := by
  intro zs z s hz hR
  refine wpAny_bind (wpAny_mono (h zs z s hz hR) ?_ fun _ _ x => x)
  rintro a s1 ⟨z1, σ1, l1, R1, k⟩
  refine wpAny_mono (k zs z1 s1 (Z.le_refl _) R1) ?_ fun _ _ x => PX.le l1 x
  rintro b s2 ⟨z2, σ2, l2, R2, q⟩
  exact ⟨z2, σ2, Z.le_trans l1 l2, R2, q⟩
theorem TT.pure {a : α} {P : Z → α → St → Prop} (h : ∀ z, Z.le z₀ z → P z a σ) : TT C z₀ (Pure.pure a) P X σ :=
  fun _ z _ hz hR => wpAny_pure ⟨z, σ, Z.le_refl _, hR, h z hz⟩
theorem TT.mono {t : Sem α} {P P' : Z → α → St → Prop} (h : TT C z₀ t P X σ) (k : ∀ z a σ', Z.le z₀ z → P z a σ' → P' z a σ') : TT C z₀ t P' X σ := by
  intro zs z s hz hR
  refine wpAny_mono (h zs z s hz hR) ?_ fun _ _ x => x
  rintro a s1 ⟨z1, σ1, l1, R1, q⟩
  exact ⟨z1, σ1, l1, R1, k _ _ _ (Z.le_trans hz l1) q⟩
theorem TT.eq {t : Sem α} {a : α} {P : Z → α → St → Prop} (e : t = Pure.pure a) (h : ∀ z, Z.le z₀ z → P z a σ) : TT C z₀ t P X σ := e ▸ TT.pure h
theorem TT.holding {vs : List Value} {t : Sem α} {P : Z → α → St → Prop} (h : TT C z₀ t P X σ) : TT C z₀ (PySem.holding vs t) P X σ :=
  fun zs z s hz hR => wpAny_holding (h zs z s hz hR)
theorem TT.operate {vs : List Value} {t : Sem Value} {P : Z → Value → St → Prop} (h : TT C z₀ t P X σ) : TT C z₀ (PySem.operate vs t) P X σ :=
  fun zs z s hz hR => wpAny_operate' (h zs z s hz hR)
theorem TT.at_ {p : Pos} {f : Unit → Sem α} {P : Z → α → St → Prop} (h : TT C z₀ (f ()) P X σ) : TT C z₀ (standAt p >>= f) P X σ :=
  fun zs z s hz hR => wpAny_bind (wpAny_standAt (h zs z s hz hR))
end

/-- what an expression hands on -/
inductive PVal (Q : V → St → Prop) (z : Z) (val : Value) (σ : St) : Prop
  | mk (v : V) (r : Rep z v val) (q : Q v σ)
noncomputable def TE (C : Cx) (e : Expr) (Q : V → St → Prop) (X : XP) (σ : St) : Prop := ∀ z₀, TT C z₀ (eval e C.env) (PVal Q) X σ

inductive Fl where
  | next | brk | cont
  | ret (v : V)
inductive RepF (z : Z) : Fl → Flow → Prop
  | next : RepF z .next .next
  | brk : RepF z .brk .brk
  | cont : RepF z .cont .cont
  | ret {v : V} {x : Value} (h : Rep z v x) : RepF z (.ret v) (.ret x)
inductive PFl (Q : Fl → St → Prop) (z : Z) (f : Flow) (σ : St) : Prop
  | mk (fl : Fl) (r : RepF z fl f) (q : Q fl σ)
noncomputable def TS (C : Cx) (st : Stmt) (Q : Fl → St → Prop) (X : XP) (σ : St) : Prop := ∀ z₀, TT C z₀ (exec st C.env) (PFl Q) X σ
noncomputable def TSs (C : Cx) (sts : List Stmt) (Q : Fl → St → Prop) (X : XP) (σ : St) : Prop := ∀ z₀, TT C z₀ (execs sts C.env) (PFl Q) X σ
/-- a test -/
noncomputable def TB (C : Cx) (e : Expr) (Q : Bool → St → Prop) (X : XP) (σ : St) : Prop := ∀ z₀, TT C z₀ (isTrue e C.env (eval e C.env)) (fun _ b σ' => Q b σ') X σ

section
variable {C : Cx} {zs z : Z} {σ : St} {s : Shared}

theorem RH.grow {g : Gd} {H : Led} (r : RH g zs H z s) {h' : Heap} {t : Nat} (k : ∀ b o, s.heap.get? b = some o → h'.get? b = some o) : RH g zs H z { s with heap := h', toks := t } where
  hz b o e := k b o (r.hz b o e)
  hbase := r.hbase
  hzs b o e := let ⟨sl, q, w⟩ := r.hzs b o e; ⟨sl, k _ _ q, w⟩
  disj := r.disj
  hH p hp := let ⟨a, b⟩ := r.hH p hp; ⟨a.keep fun o ho => k _ _ ho, b⟩
  nodup := r.nodup
  gens := r.gens
  os := r.os
theorem R.grow (r : R C zs σ z s) {h' : Heap} {t : Nat} (k : ∀ b o, s.heap.get? b = some o → h'.get? b = some o) : R C zs σ z { s with heap := h', toks := t } where
  rh := r.rh.grow k
  ns := let ⟨m, a, b⟩ := r.ns; ⟨m, a.keeps k, b⟩
  cells x v h1 h2 := let ⟨c, val, a, b, d⟩ := r.cells x v h1 h2; ⟨c, val, a, b.keeps k, d⟩
  cellsOk p hp := let ⟨⟨ov, a⟩, b⟩ := r.cellsOk p hp; ⟨⟨ov, a.keeps k⟩, b⟩
  locFree := r.locFree
  fr := r.fr
theorem R.toks (r : R C zs σ z s) (t : Nat) : R C zs σ z { s with toks := t } := r.grow fun _ _ e => e
theorem R.push (r : R C zs σ z s) (o : Obj) (t : Nat) : R C zs σ z { s with heap := s.heap.push o, toks := t } := r.grow fun _ _ e => Heap.get?_push_of_some _ e
theorem R.push' (r : R C zs σ z s) (o : Obj) : R C zs σ z { s with heap := s.heap.push o } := r.push o s.toks

noncomputable def Apart (C : Cx) (zs : Z) (σ : St) (a : Addr) : Prop := zs a = none ∧ a ≠ C.env.locals ∧ a ∉ σ.H.map (·.1) ∧ ∀ p ∈ C.env.cells, p.2 ≠ a

theorem RH.lt_z {g : Gd} {H : Led} (r : RH g zs H z s) {b : Addr} {o : Obj} (e : z b = some o) : b < s.heap.objs.size := Heap.lt_size (r.hz b o e)
theorem RH.fresh_z {g : Gd} {H : Led} (r : RH g zs H z s) {b : Addr} (e : s.heap.objs.size ≤ b) : z b = none := by
  cases h : z b with
  | none => rfl
  | some o => exact absurd (r.lt_z h) (Nat.not_lt.mpr e)
theorem RH.fresh_zs {g : Gd} {H : Led} (r : RH g zs H z s) {b : Addr} (e : s.heap.objs.size ≤ b) : zs b = none := by
  cases h : zs b with
  | none => rfl
  | some o => obtain ⟨sl, q, _⟩ := r.hzs _ _ h; exact absurd (Heap.lt_size q) (Nat.not_lt.mpr e)
theorem AOK.lt {g : Gd} {h : Heap} {a : Addr} {o : AO} (k : AOK g z h a o) : a < h.objs.size := by
  cases o with
  | list _ => obtain ⟨_, _, ho, _⟩ := k; exact Heap.lt_size ho
  | dictS _ => obtain ⟨_, ⟨_, _, _, ho, _⟩, _⟩ := k; exact Heap.lt_size ho
  | dictI _ => obtain ⟨_, ⟨_, _, _, ho, _⟩, _⟩ := k; exact Heap.lt_size ho
  | raw _ => exact Heap.lt_size k
theorem RH.fresh_H {g : Gd} {H : Led} (r : RH g zs H z s) {b : Addr} (e : s.heap.objs.size ≤ b) : b ∉ H.map (·.1) := by
  intro hb
  obtain ⟨p, hp, rfl⟩ := List.mem_map.mp hb
  exact absurd (r.hH p hp).1.lt (Nat.not_lt.mpr e)
theorem R.apart_new (r : R C zs σ z s) {a : Addr} (h : s.heap.objs.size ≤ a) : Apart C zs σ a := by
  refine ⟨r.rh.fresh_zs h, ?_, r.rh.fresh_H h, ?_⟩
  · intro e
    obtain ⟨m, n, _⟩ := r.ns
    exact absurd n.lt (Nat.not_lt.mpr (e ▸ h))
  · intro p hp e
    obtain ⟨⟨ov, c⟩, _⟩ := r.cellsOk p hp
    exact absurd c.lt (Nat.not_lt.mpr (e ▸ h))

theorem Z.le_put {g : Gd} {H : Led} (r : RH g zs H z s) {a : Addr} {o : Obj} (e : s.heap.get? a = some o) : Z.le z (z.put a o) := by
  intro b o' hb
  unfold Z.put
  by_cases h : b = a
  · subst h; rw [if_pos rfl]; rw [r.hz _ _ hb] at e; exact e.symm
  · rw [if_neg h]; exact hb
theorem put_ne {a b : Addr} {o : Obj} (h : b ≠ a) (e : z b = none) : z.put a o b = none := by unfold Z.put; rw [if_neg h]; exact e
theorem put_self {a : Addr} {o : Obj} : z.put a o a = some o := if_pos rfl

theorem RH.freeze {g : Gd} {H : Led} (r : RH g zs H z s) {a : Addr} {o : Obj} (e : s.heap.get? a = some o) (h1 : zs a = none) (h2 : a ∉ H.map (·.1)) : RH g zs H (z.put a o) s where
  hz b o' h := by
    unfold Z.put at h
    by_cases hb : b = a
    · subst hb; rw [if_pos rfl] at h; cases h; exact e
    · rw [if_neg hb] at h; exact r.hz b o' h
  hbase b o' h := Z.le_put r e _ _ (r.hbase b o' h)
  hzs := r.hzs
  disj b o' h := put_ne (fun q => by subst q; rw [h1] at h; cases h) (r.disj b o' h)
  hH p hp := by
    obtain ⟨x, y, w⟩ := r.hH p hp
    refine ⟨x.mono (Z.le_put r e), put_ne (fun q => h2 ?_) y, w⟩
    rw [← q]; exact List.mem_map_of_mem hp
  nodup := r.nodup
  gens := r.gens
  os := r.os
theorem R.freeze (r : R C zs σ z s) {a : Addr} {o : Obj} (e : s.heap.get? a = some o) (q : Apart C zs σ a) : R C zs σ (z.put a o) s where
  rh := r.rh.freeze e q.1 q.2.2.1
  ns := let ⟨m, x, y⟩ := r.ns; ⟨m, x, fun n v h1 h2 => let ⟨val, u, w⟩ := y n v h1 h2; ⟨val, u, w.mono (Z.le_put r.rh e)⟩⟩
  cells x v h1 h2 := let ⟨c, val, u, w, t⟩ := r.cells x v h1 h2; ⟨c, val, u, w, t.mono (Z.le_put r.rh e)⟩
  cellsOk p hp := let ⟨u, w, t⟩ := r.cellsOk p hp; ⟨u, put_ne (q.2.2.2 p hp) w, t⟩
  locFree := ⟨put_ne (Ne.symm q.2.1) r.locFree.1, r.locFree.2⟩
  fr := r.fr

/-- a new object goes into the frozen part -/
theorem R.frozen (r : R C zs σ z s) (o : Obj) (t : Nat) (hf : o.isFreed = false := by rfl) :
    R C zs σ (z.put s.heap.objs.size o) { s with heap := s.heap.push o, toks := t } ∧ Z.le z (z.put s.heap.objs.size o) :=
  have e : ({ s with heap := s.heap.push o, toks := t } : Shared).heap.get? s.heap.objs.size = some o := Heap.get?_push_size _ hf
  have r' := r.push o t
  ⟨r'.freeze e (r.apart_new (Nat.le_refl _)), Z.le_put r'.rh e⟩

/-- a new object goes onto the ledger -/
theorem RH.ledger {g : Gd} {H : Led} (r : RH g zs H z s) {a : Addr} {o : AO} (h : AOK g z s.heap a o) (h0 : z a = none) (h1 : zs a = none) (h2 : a ∉ H.map (·.1)) : RH g zs ((a, o) :: H) z s where
  hz := r.hz
  hbase := r.hbase
  hzs := r.hzs
  disj := r.disj
  hH p hp := by
    rcases List.mem_cons.mp hp with e | hp
    · subst e; exact ⟨h, h0, h1⟩
    · exact r.hH p hp
  nodup := by rw [List.map_cons]; exact List.nodup_cons.mpr ⟨h2, r.nodup⟩
  gens := r.gens
  os := r.os
theorem R.ledger (r : R C zs σ z s) {a : Addr} {o : AO} (h : AOK C.g z s.heap a o) (h0 : z a = none) (q : Apart C zs σ a) : R C zs ⟨σ.loc, (a, o) :: σ.H⟩ z s where
  rh := r.rh.ledger h h0 q.1 q.2.2.1
  ns := r.ns
  cells := r.cells
  cellsOk p hp := let ⟨u, w, t, v, y⟩ := r.cellsOk p hp; ⟨u, w, t, v, by
    rw [List.map_cons, List.mem_cons]; exact fun e => e.elim (q.2.2.2 p hp) y⟩
  locFree := ⟨r.locFree.1, r.locFree.2.1, by
    rw [List.map_cons, List.mem_cons]; exact fun e => e.elim (fun e => q.2.1 e.symm) r.locFree.2.2⟩
  fr := r.fr

inductive Upd (a : Addr) (o o' : AO) : Led → Led → Prop
  | head {t : Led} : Upd a o o' ((a, o) :: t) ((a, o') :: t)
  | tail {p : Addr × AO} {t t' : Led} (h : Upd a o o' t t') : Upd a o o' (p :: t) (p :: t')
theorem Upd.keys {a : Addr} {o o' : AO} {H H' : Led} (u : Upd a o o' H H') : H'.map (·.1) = H.map (·.1) := by
  induction u with
  | head => rfl
  | tail _ ih => simp [ih]
theorem Upd.mem {a : Addr} {o o' : AO} {H H' : Led} (u : Upd a o o' H H') : (a, o) ∈ H := by
  induction u with
  | head => exact List.mem_cons_self
  | tail _ ih => exact List.mem_cons_of_mem _ ih
theorem Upd.of_mem {a : Addr} {o o' : AO} {H H' : Led} (u : Upd a o o' H H') (hn : (H.map (·.1)).Nodup) : ∀ p ∈ H', p = (a, o') ∨ (p ∈ H ∧ p.1 ≠ a) := by
  induction u with
  | head =>
    intro p hp
    rw [List.map_cons, List.nodup_cons] at hn
    rcases List.mem_cons.mp hp with e | hp
    · exact .inl e
    · exact .inr ⟨List.mem_cons_of_mem _ hp, fun e => hn.1 (e ▸ List.mem_map_of_mem (f := (·.1)) hp)⟩
  | tail u' ih =>
    intro p hp
    rw [List.map_cons, List.nodup_cons] at hn
    rcases List.mem_cons.mp hp with e | hp
    · subst e
      exact .inr ⟨List.mem_cons_self, fun e => hn.1 (e ▸ List.mem_map_of_mem (f := (·.1)) u'.mem)⟩
    · exact (ih hn.2 p hp).imp id fun ⟨x, y⟩ => ⟨List.mem_cons_of_mem _ x, y⟩

theorem RH.upd {g : Gd} {H H' : Led} (r : RH g zs H z s) {a : Addr} {o o' : AO} (u : Upd a o o' H H') {h' : Heap} {t : Nat} (hs : Heap.SameBut a s.heap h') (k : AOK g z h' a o') :
    RH g zs H' z { s with heap := h', toks := t } where
  hz b o e := (hs.2 b fun q => by have := (r.hH _ u.mem).2.1; subst q; rw [this] at e; cases e).trans (r.hz b o e)
  hbase := r.hbase
  hzs b o e := let ⟨sl, q, w⟩ := r.hzs b o e; ⟨sl, (hs.2 b fun q => by have := (r.hH _ u.mem).2.2; subst q; rw [this] at e; cases e).trans q, w⟩
  disj := r.disj
  hH p hp := by
    rcases u.of_mem r.nodup p hp with e | ⟨hm, hn⟩
    · subst e; exact ⟨k, (r.hH _ u.mem).2⟩
    · obtain ⟨x, y⟩ := r.hH p hm
      exact ⟨x.keep fun o ho => (hs.2 _ hn).trans ho, y⟩
  nodup := by rw [u.keys]; exact r.nodup
  gens := r.gens
  os := r.os
theorem R.upd {H' : Led} (r : R C zs σ z s) {a : Addr} {o o' : AO} (u : Upd a o o' σ.H H') {h' : Heap} {t : Nat} (hs : Heap.SameBut a s.heap h') (k : AOK C.g z h' a o') :
    R C zs ⟨σ.loc, H'⟩ z { s with heap := h', toks := t } where
  rh := r.rh.upd u hs k
  ns := let ⟨m, x, y⟩ := r.ns; ⟨m, x.sameBut hs fun e => r.locFree.2.2 (e ▸ List.mem_map_of_mem (f := (·.1)) u.mem), y⟩
  cells x v h1 h2 := let ⟨c, val, p, q, w⟩ := r.cells x v h1 h2
    ⟨c, val, p, q.sameBut hs fun e => (r.cellsOk (x, c) (mem_of_lookup p)).2.2.2.2 (e ▸ List.mem_map_of_mem (f := (·.1)) u.mem), w⟩
  cellsOk p hp := let ⟨⟨ov, x⟩, y, w, q, n⟩ := r.cellsOk p hp
    ⟨⟨ov, x.sameBut hs fun e => n (e ▸ List.mem_map_of_mem (f := (·.1)) u.mem)⟩, y, w, q, by show p.2 ∉ H'.map (·.1); rw [u.keys]; exact n⟩
  locFree := ⟨r.locFree.1, r.locFree.2.1, by show _ ∉ H'.map (·.1); rw [u.keys]; exact r.locFree.2.2⟩
  fr := r.fr

/-- less is known -/
theorem R.weaken {σ' : St} (r : R C zs σ z s) (h1 : ∀ x v, σ'.loc.lookup x = some v → σ.loc.lookup x = some v) (h2 : σ'.H.Sublist σ.H) : R C zs σ' z s where
  rh := { r.rh with hH := fun p hp => r.rh.hH p (h2.subset hp), nodup := r.rh.nodup.sublist (h2.map _) }
  ns := let ⟨m, x, y⟩ := r.ns; ⟨m, x, fun n v a b => y n v (h1 n v a) b⟩
  cells x v a b := r.cells x v (h1 x v a) b
  cellsOk p hp := let ⟨a, b, c, d, e⟩ := r.cellsOk p hp; ⟨a, b, c, d, fun q => e ((h2.map _).subset q)⟩
  locFree := ⟨r.locFree.1, r.locFree.2.1, fun q => r.locFree.2.2 ((h2.map _).subset q)⟩
  fr := r.fr
end

theorem TT.weaken {α : Type} {C : Cx} {z₀ : Z} {t : Sem α} {P : Z → α → St → Prop} {X : XP} {σ σ' : St} (h1 : ∀ x v, σ'.loc.lookup x = some v → σ.loc.lookup x = some v) (h2 : σ'.H.Sublist σ.H)
    (h : TT C z₀ t P X σ') : TT C z₀ t P X σ := fun zs z s hz hR => h zs z s hz (hR.weaken h1 h2)
end PL

end
section
open PySem PySem.Calls PyProof.Rows
set_option Elab.async false
set_option linter.unusedVariables false
set_option linter.unusedSimpArgs false
namespace PL

noncomputable def setL : List (Str × V) → Str → V → List (Str × V)
  | [], x, v => [(x, v)]
  | (y, w) :: r, x, v => if x == y then (y, v) :: r else (y, w) :: setL r x v
theorem lookup_setL (x : Str) (v : V) (y : Str) : ∀ l : List (Str × V), (setL l x v).lookup y = if y = x then some v else l.lookup y
  | [] => by
    by_cases h : y = x
    · subst h; simp [setL, List.lookup]
    · have : (y == x) = false := beq_eq_false_iff_ne.mpr h
      simp [setL, List.lookup, this, h]
  | (k, w) :: r => by
    unfold setL
    by_cases hk : x = k
    · subst hk
      rw [if_pos (by simp)]
      by_cases h : y = x
      · subst h; simp [List.lookup]
      · have : (y == x) = false := beq_eq_false_iff_ne.mpr h
        simp [List.lookup, this, h]
    · rw [if_neg (by simpa using hk)]
      by_cases h : y = k
      · subst h
        have hyx : ¬ y = x := fun e => hk e.symm
        simp [List.lookup, hyx]
      · have : (y == k) = false := beq_eq_false_iff_ne.mpr h
        rw [List.lookup_cons, this]
        simp only
        rw [lookup_setL x v y r, List.lookup_cons, this]

section
variable {C : Cx} {X : XP} {σ : St} {zs z z₀ : Z} {s : Shared}

theorem RH.base {g : Gd} {H : Led} (r : RH g zs H z s) : ∀ b o, g.base.get? b = some o → s.heap.get? b = some o := fun b o e => r.hz b o (r.hbase b o e)

/-- a value handed on with no change of the state but the tokens -/
theorem PVal.toks {Q : V → St → Prop} (hR : R C zs σ z s) {v : V} {x : Value} {t : Nat} (r : Rep z v x) (h : Q v σ) :
    Post C zs z (PVal Q) x { s with toks := t } := ⟨z, σ, Z.le_refl _, hR.toks t, v, r, h⟩
theorem PVal.same {Q : V → St → Prop} (hR : R C zs σ z s) {v : V} {x : Value} (r : Rep z v x) (h : Q v σ) :
    Post C zs z (PVal Q) x s := ⟨z, σ, Z.le_refl _, hR, v, r, h⟩

theorem TE.name_local {x : Str} {p : Pos} {v : V} {Q : V → St → Prop} (hl : C.env.kindOf x = some .local) (hv : σ.loc.lookup x = some v) (h : Q v σ) (hd : (x == ("__debug__" : Str)) = false := by decide) :
    TE C (.Name x p) Q X σ := by
  intro z₀ zs z s hz hR
  obtain ⟨m, hn, hm⟩ := hR.ns
  obtain ⟨val, e, r⟩ := hm x v hv hl
  exact wpAny_Name (wpAny_loadName_local C.hk hl hn e (PVal.same hR r h)) hd
theorem TE.name_cell {x : Str} {p : Pos} {v : V} {Q : V → St → Prop} (hl : C.env.kindOf x = some .cell) (hv : σ.loc.lookup x = some v) (h : Q v σ) (hd : (x == ("__debug__" : Str)) = false := by decide) :
    TE C (.Name x p) Q X σ := by
  intro z₀ zs z s hz hR
  obtain ⟨c, val, e, hc, r⟩ := hR.cells x v hv (by rw [hl]; rfl)
  exact wpAny_Name (wpAny_loadName_cell C.hk hl e hc (PVal.same hR r h)) hd
theorem TE.name_glob {x : Str} {p : Pos} {v : Value} {Q : V → St → Prop} (hl : C.env.kindOf x = some .globalImplicit) (hv : C.g.mg x = some v) (h : Q (.con v) σ) (hd : (x == ("__debug__" : Str)) = false := by decide) :
    TE C (.Name x p) Q X σ := by
  intro z₀ zs z s hz hR
  refine Name_function_global C.hk hl (loadGlobal_global (mg := C.g.mg) ?_ hv (PVal.same hR (.con v) h)) hd
  rw [C.hglob]; exact C.g.hmg.keeps hR.rh.base
theorem TE.name_builtin {x : Str} {p : Pos} {v : Value} {Q : V → St → Prop} (hl : C.env.kindOf x = some .globalImplicit) (hm : C.g.mg x = none) (hv : bootBuiltins x = some v) (h : Q (.con v) σ)
    (hd : (x == ("__debug__" : Str)) = false := by decide) (hn : x ≠ "__name__" := by decide) : TE C (.Name x p) Q X σ := by
  intro z₀ zs z s hz hR
  refine Name_function_global C.hk hl (loadGlobal_builtin (mg := C.g.mg) (mb := C.g.mb) ?_ hm ?_ ((C.g.hbi x hn).trans hv) (PVal.same hR (.con v) h)) hd
  · rw [C.hglob]; exact C.g.hmg.keeps hR.rh.base
  · rw [C.hbuilt]; exact C.g.hmb.keeps hR.rh.base

theorem TE.const_int {i : Int} {k : Nat} {p : Pos} {Q : V → St → Prop} (h : Q (.int i) σ) : TE C (.Constant (.int i) k p) Q X σ :=
  fun z₀ zs z s hz hR => wpAny_Constant_int (PVal.toks hR (.int i _) h)
theorem rep_str (x : Str) (t : Tok) : Rep z (.txt false x.cps.toList) (.str x t) := by
  have : x = ⟨x.cps.toList.toArray⟩ := by simp
  conv => rhs; rw [this]
  exact .str _ t
theorem TE.const_str {x : Str} {k : Nat} {p : Pos} {Q : V → St → Prop} (h : Q (.txt false x.cps.toList) σ) : TE C (.Constant (.str x) k p) Q X σ :=
  fun z₀ zs z s hz hR => wpAny_Constant_str (PVal.toks hR (rep_str x _) h)
theorem rep_bytes (b : List UInt8) (t : Tok) : Rep z (.txt true (b.map UInt8.toNat)) (.bytes b.toArray t) := by
  have : b = (b.map UInt8.toNat).map UInt8.ofNat := by simp [List.map_map, Function.comp_def]
  conv => rhs; rw [this]
  exact .bytes _ t (fun c hc => by
    obtain ⟨d, _, rfl⟩ := List.mem_map.mp hc
    exact UInt8.toNat_lt d)
theorem TE.const_bytes {b : List UInt8} {k : Nat} {p : Pos} {Q : V → St → Prop} (h : Q (.txt true (b.map UInt8.toNat)) σ) : TE C (.Constant (.bytes b) k p) Q X σ :=
  fun z₀ zs z s hz hR => wpAny_mkTextBytes (PVal.toks hR (rep_bytes b _) h)

/-! operators -/
noncomputable def Bin (C : Cx) (op : Operator) (a b : V) (Q : V → St → Prop) (X : XP) (σ : St) : Prop := ∀ z₀ x y, Rep z₀ a x → Rep z₀ b y → TT C z₀ (binaryOp op x y) (PVal Q) X σ
noncomputable def Inp (C : Cx) (op : Operator) (a b : V) (Q : V → St → Prop) (X : XP) (σ : St) : Prop := ∀ z₀ x y, Rep z₀ a x → Rep z₀ b y → TT C z₀ (inplaceOp op x y) (PVal Q) X σ
noncomputable def Un (C : Cx) (op : UnaryOp) (a : V) (Q : V → St → Prop) (X : XP) (σ : St) : Prop := ∀ z₀ x, Rep z₀ a x → TT C z₀ (unaryOp op x) (PVal Q) X σ
noncomputable def Cmp (C : Cx) (op : CmpOp) (a b : V) (Q : V → St → Prop) (X : XP) (σ : St) : Prop := ∀ z₀ x y, Rep z₀ a x → Rep z₀ b y → TT C z₀ (compareOp op x y) (PVal Q) X σ
noncomputable def Tru (C : Cx) (a : V) (Q : Bool → St → Prop) (X : XP) (σ : St) : Prop := ∀ z₀ x, Rep z₀ a x → TT C z₀ (truthy x) (fun _ b σ' => Q b σ') X σ

theorem TE.binop {l r : Expr} {op : Operator} {p : Pos} {Q : V → St → Prop} (h : TE C l (fun a σ1 => TE C r (fun b σ2 => Bin C op a b Q X σ2) X σ1) X σ) : TE C (.BinOp l op r p) Q X σ := by
  intro z₀
  rw [eval_BinOp]
  refine TT.bind (TT.mono (h z₀) ?_)
  rintro z a σ1 l1 ⟨va, ra, h1⟩
  refine TT.bind (TT.holding (TT.mono (h1 z) ?_))
  rintro z' b σ2 l2 ⟨vb, rb, h2⟩
  exact TT.at_ (TT.operate (h2 z' a b (ra.mono l2) rb))
theorem TE.unop {x : Expr} {op : UnaryOp} {p : Pos} {Q : V → St → Prop} (h : TE C x (fun a σ1 => Un C op a Q X σ1) X σ) : TE C (.UnaryOp op x p) Q X σ := by
  intro z₀
  rw [arm_eval_UnaryOp]
  refine TT.bind (TT.mono (h z₀) ?_)
  rintro z a σ1 l1 ⟨va, ra, h1⟩
  exact TT.at_ (TT.holding (h1 z a ra))
theorem TE.cmp {l r : Expr} {op : CmpOp} {p : Pos} {Q : V → St → Prop} (h : TE C l (fun a σ1 => TE C r (fun b σ2 => Cmp C op a b Q X σ2) X σ1) X σ) (hm : behindInMarks op r = false := by with_unfolding_all rfl) :
    TE C (.Compare l [op] [r] p) Q X σ := by
  intro z₀
  rw [eval_Compare1, markedBehindIn_of_false hm]
  refine TT.bind (TT.mono (h z₀) ?_)
  rintro z a σ1 l1 ⟨va, ra, h1⟩
  refine TT.bind (TT.holding (TT.mono (h1 z) ?_))
  rintro z' b σ2 l2 ⟨vb, rb, h2⟩
  exact TT.at_ (TT.operate (h2 z' a b (ra.mono l2) rb))
inductive IsB (Q : Bool → St → Prop) (v : V) (σ : St) : Prop
  | mk (b : Bool) (e : v = .bool b) (q : Q b σ)
theorem TB.cmp {l r : Expr} {op : CmpOp} {p : Pos} {Q : Bool → St → Prop} (h : TE C l (fun a σ1 => TE C r (fun b σ2 => Cmp C op a b (IsB Q) X σ2) X σ1) X σ) (hm : behindInMarks op r = false := by with_unfolding_all rfl) :
    TB C (.Compare l [op] [r] p) Q X σ := by
  intro z₀
  rw [isTrue_Compare1, markedBehindIn_of_false hm]
  refine TT.bind (TT.mono (h z₀) ?_)
  rintro z a σ1 l1 ⟨va, ra, h1⟩
  refine TT.bind (TT.holding (TT.mono (h1 z) ?_))
  rintro z' b σ2 l2 ⟨vb, rb, h2⟩
  refine TT.at_ (TT.bind (TT.operate (TT.mono (h2 z' a b (ra.mono l2) rb) ?_)))
  rintro z'' c σ3 l3 ⟨vc, rc, b, rfl, h3⟩
  cases rc
  refine TT.holding (TT.eq (a := b) rfl fun _ _ => h3)
theorem TB.not {x : Expr} {p : Pos} {Q : Bool → St → Prop} (h : TB C x (fun b σ1 => Q (!b) σ1) X σ) : TB C (.UnaryOp .Not x p) Q X σ := by
  intro z₀
  rw [arm_isTrue_UnaryOp]
  refine TT.bind (TT.mono (h z₀) ?_)
  rintro z a σ1 l1 h1
  exact TT.pure fun _ _ => h1
theorem TB.val {e : Expr} {Q : Bool → St → Prop} (h : TE C e (fun v σ1 => Tru C v Q X σ1) X σ) (he : isTrue e C.env (eval e C.env) = (do let v ← eval e C.env; standAt e.pos; holding [v] (truthy v)) := by rfl) : TB C e Q X σ := by
  intro z₀
  rw [he]
  refine TT.bind (TT.mono (h z₀) ?_)
  rintro z a σ1 l1 ⟨va, ra, h1⟩
  exact TT.at_ (TT.holding (h1 z a ra))
noncomputable def TBall (C : Cx) (op : BoolOp) (es : List Expr) (Q : Bool → St → Prop) (X : XP) (σ : St) : Prop := ∀ z₀, TT C z₀ (allTrue op es C.env) (fun _ b σ' => Q b σ') X σ
theorem TB.boolop {op : BoolOp} {es : List Expr} {p : Pos} {Q : Bool → St → Prop} (h : TBall C op es Q X σ) : TB C (.BoolOp op es p) Q X σ := by
  intro z₀; rw [arm_isTrue_BoolOp]; exact h z₀
theorem TBall.and_nil {Q : Bool → St → Prop} (h : Q true σ) : TBall C .And [] Q X σ := fun z₀ => TT.pure fun _ _ => h
theorem TBall.or_nil {Q : Bool → St → Prop} (h : Q false σ) : TBall C .Or [] Q X σ := fun z₀ => TT.pure fun _ _ => h
theorem TBall.and_cons {x : Expr} {rest : List Expr} {Q : Bool → St → Prop} (h : TB C x (fun b σ1 => if b then TBall C .And rest Q X σ1 else Q false σ1) X σ) : TBall C .And (x :: rest) Q X σ := by
  intro z₀
  show TT C z₀ (do match BoolOp.And, ← isTrue x C.env (eval x C.env) with | .And, false => pure false | .Or, true => pure true | _, _ => allTrue .And rest C.env) _ X σ
  refine TT.bind (TT.mono (h z₀) ?_)
  rintro z b σ1 l1 h1
  cases b
  · exact TT.pure fun _ _ => h1
  · exact h1 z
theorem TBall.or_cons {x : Expr} {rest : List Expr} {Q : Bool → St → Prop} (h : TB C x (fun b σ1 => if b then Q true σ1 else TBall C .Or rest Q X σ1) X σ) : TBall C .Or (x :: rest) Q X σ := by
  intro z₀
  show TT C z₀ (do match BoolOp.Or, ← isTrue x C.env (eval x C.env) with | .And, false => pure false | .Or, true => pure true | _, _ => allTrue .Or rest C.env) _ X σ
  refine TT.bind (TT.mono (h z₀) ?_)
  rintro z b σ1 l1 h1
  cases b
  · exact h1 z
  · exact TT.pure fun _ _ => h1
theorem TE.ifexp {t b o : Expr} {p : Pos} {Q : V → St → Prop} (h : TB C t (fun c σ1 => if c then TE C b Q X σ1 else TE C o Q X σ1) X σ) : TE C (.IfExp t b o p) Q X σ := by
  intro z₀
  rw [arm_eval_IfExp]
  refine TT.bind (TT.mono (h z₀) ?_)
  rintro z c σ1 l1 h1
  cases c
  · exact h1 z
  · exact h1 z
noncomputable def TEb (C : Cx) (op : BoolOp) (es : List Expr) (Q : V → St → Prop) (X : XP) (σ : St) : Prop := ∀ pos z₀, TT C z₀ (boolOp pos op (evalEach es C.env)) (PVal Q) X σ
theorem TE.boolop {op : BoolOp} {es : List Expr} {p : Pos} {Q : V → St → Prop} (h : TEb C op es Q X σ) : TE C (.BoolOp op es p) Q X σ := fun z₀ => h p z₀
theorem TEb.one {op : BoolOp} {e : Expr} {Q : V → St → Prop} (h : TE C e Q X σ) : TEb C op [e] Q X σ := fun p z₀ => h z₀
theorem TEb.or_cons {e e' : Expr} {r : List Expr} {Q : V → St → Prop} (h : TE C e (fun v σ1 => Tru C v (fun b σ2 => if b then Q v σ2 else TEb C .Or (e' :: r) Q X σ2) X σ1) X σ) : TEb C .Or (e :: e' :: r) Q X σ := by
  intro p z₀
  show TT C z₀ (do
    let v ← eval e C.env
    standAt p
    let t ← holding [v] (truthy v)
    match BoolOp.Or, t with
    | .And, false | .Or, true => pure v
    | _, _ => boolOp p .Or (evalEach (e' :: r) C.env)) _ X σ
  refine TT.bind (TT.mono (h z₀) ?_)
  rintro z a σ1 l1 ⟨va, ra, h1⟩
  refine TT.at_ (TT.bind (TT.holding (TT.mono (h1 z a ra) ?_)))
  rintro z' b σ2 l2 h2
  cases b
  · exact h2 p z'
  · exact TT.pure fun z l => ⟨va, (ra.mono l2).mono l, h2⟩

/-! displays and arguments -/
inductive PArgs (Q : List V → St → Prop) (z : Z) (xs : List Value) (σ : St) : Prop
  | mk (vs : List V) (r : RepL z vs xs) (q : Q vs σ)
noncomputable def TArgs (C : Cx) (es : List Expr) (Q : List V → St → Prop) (X : XP) (σ : St) : Prop := ∀ pos z₀, TT C z₀ (spliced (backTo pos (starEach es C.env))) (PArgs Q) X σ
theorem TArgs.nil {Q : List V → St → Prop} (h : Q [] σ) : TArgs C [] Q X σ := fun pos z₀ => TT.pure fun z _ => ⟨[], .nil, h⟩
theorem TArgs.cons {e : Expr} {r : List Expr} {Q : List V → St → Prop} (h : TE C e (fun v σ1 => TArgs C r (fun vs σ2 => Q (v :: vs) σ2) X σ1) X σ)
    (he : starEach (e :: r) C.env = (false, eval e C.env) :: starEach r C.env := by rfl) : TArgs C (e :: r) Q X σ := by
  intro pos z₀
  rw [he]
  show TT C z₀ (do
    let v ← eval e C.env
    let here ← (pure [v] : Sem (List Value))
    return here ++ (← holding here (spliced (backTo pos (starEach r C.env))))) _ X σ
  refine TT.bind (TT.mono (h z₀) ?_)
  rintro z a σ1 l1 ⟨va, ra, h1⟩
  refine TT.bind (TT.pure fun z1 l2 => TT.bind (TT.holding (TT.mono (h1 pos z1) ?_)))
  rintro z2 xs σ2 l3 ⟨vs, rs, h2⟩
  exact TT.pure fun z3 l4 => ⟨va :: vs, .cons (((ra.mono l2).mono l3).mono l4) (rs.mono l4), h2⟩

theorem size_ok {n : Nat} (h : n ≤ 16777216) : n ≤ sizeLine := by rw [sizeLine_eq]; exact h

/-- a new tuple of known values -/
theorem TT.newTuple {vs : List V} {xs : List Value} {Q : V → St → Prop} (r : RepL z₀ vs xs) (hn : vs.length ≤ 16777216) (h : Q (.tup vs) σ) : TT C z₀ (PySem.newTuple xs) (PVal Q) X σ := by
  intro zs z s hz hR
  refine wpAny_newTuple ?_ (by rw [r.length]; exact size_ok hn)
  obtain ⟨R', l⟩ := hR.frozen { cls := .type "tuple", data := .seq xs.toArray } s.toks
  exact ⟨_, _, l, R', _, .tup put_self ((r.mono hz).mono l), h⟩
/-- a new list, frozen -/
theorem TT.newListF {vs : List V} {xs : List Value} {Q : V → St → Prop} (r : RepL z₀ vs xs) (hn : vs.length ≤ 16777216) (h : Q (.lst vs) σ) : TT C z₀ (PySem.newList xs) (PVal Q) X σ := by
  intro zs z s hz hR
  refine wpAny_newList ?_ (by rw [r.length]; exact size_ok hn)
  obtain ⟨R', l⟩ := hR.frozen { cls := .type "list", data := .seq xs.toArray } s.toks
  exact ⟨_, _, l, R', _, .lst put_self ((r.mono hz).mono l), h⟩
/-- a new list, live -/
theorem TT.newListM {vs : List V} {xs : List Value} {Q : V → St → Prop} (r : RepL z₀ vs xs) (hn : vs.length ≤ 16777216) (h : ∀ a, Q (.ref a) ⟨σ.loc, (a, .list vs) :: σ.H⟩) : TT C z₀ (PySem.newList xs) (PVal Q) X σ := by
  intro zs z s hz hR
  refine wpAny_newList ?_ (by rw [r.length]; exact size_ok hn)
  have R' := hR.push' { cls := .type "list", data := .seq xs.toArray }
  refine ⟨z, _, Z.le_refl _, R'.ledger (a := s.heap.objs.size) (o := .list vs) ⟨xs, 0, Heap.get?_push_size _ rfl, r.mono hz⟩ (hR.rh.fresh_z (Nat.le_refl _)) ?_, _, .ref _, h _⟩
  exact hR.apart_new (Nat.le_refl _)

theorem TE.tuple {es : List Expr} {k : Nat} {p : Pos} {Q : V → St → Prop} (h : TArgs C es (fun vs σ1 => vs.length ≤ 16777216 ∧ Q (.tup vs) σ1) X σ) : TE C (.Tuple es k p) Q X σ := by
  intro z₀
  rw [arm_eval_Tuple]
  refine TT.at_ (TT.bind (TT.mono (h p z₀) ?_))
  rintro z xs σ1 l ⟨vs, r, hn, hq⟩
  exact TT.newTuple r hn hq
theorem TE.listF {es : List Expr} {p : Pos} {Q : V → St → Prop} (h : TArgs C es (fun vs σ1 => vs.length ≤ 16777216 ∧ Q (.lst vs) σ1) X σ) : TE C (.List es p) Q X σ := by
  intro z₀
  rw [arm_eval_List]
  refine TT.at_ (TT.bind (TT.mono (h p z₀) ?_))
  rintro z xs σ1 l ⟨vs, r, hn, hq⟩
  exact TT.newListF r hn hq
theorem TE.listM {es : List Expr} {p : Pos} {Q : V → St → Prop} (h : TArgs C es (fun vs σ1 => vs.length ≤ 16777216 ∧ ∀ a, Q (.ref a) ⟨σ1.loc, (a, .list vs) :: σ1.H⟩) X σ) : TE C (.List es p) Q X σ := by
  intro z₀
  rw [arm_eval_List]
  refine TT.at_ (TT.bind (TT.mono (h p z₀) ?_))
  rintro z xs σ1 l ⟨vs, r, hn, hq⟩
  exact TT.newListM r hn hq
end

/-! storing -/
section
variable {C : Cx} {X : XP} {σ : St} {zs z z₀ : Z} {s : Shared}

theorem R.storeL (hR : R C zs σ z s) {x : Str} {v : V} {val : Value} {h' : Heap} {t : Nat} {m : Str → Option Value} (hm : ∀ y u, σ.loc.lookup y = some u → C.env.kindOf y = some .local → ∃ w, m y = some w ∧ Rep z u w) (hl : C.env.kindOf x = some .local) (r : Rep z v val)
    (hn : h'.Ns C.env.locals (fun y => if y = x then some val else m y)) (hs : Heap.SameBut C.env.locals s.heap h') :
    R C zs ⟨setL σ.loc x v, σ.H⟩ z { s with heap := h', toks := t } := by
  have ne : ∀ b o, z b = some o → b ≠ C.env.locals := fun b o e q => by rw [q, hR.locFree.1] at e; cases e
  have nes : ∀ b o, zs b = some o → b ≠ C.env.locals := fun b o e q => by rw [q, hR.locFree.2.1] at e; cases e
  refine ⟨⟨fun b o e => (hs.2 b (ne b o e)).trans (hR.rh.hz b o e), hR.rh.hbase, fun b o e => ?_, hR.rh.disj, fun p hp => ?_, hR.rh.nodup, hR.rh.gens, hR.rh.os⟩, ⟨_, hn, fun y u hy hk => ?_⟩, fun y u hy hk => ?_, fun p hp => ?_, hR.locFree, hR.fr⟩
  · obtain ⟨sl, q, w⟩ := hR.rh.hzs b o e
    exact ⟨sl, (hs.2 b (nes b o e)).trans q, w⟩
  · obtain ⟨a, b⟩ := hR.rh.hH p hp
    exact ⟨a.keep fun o ho => (hs.2 _ fun q => hR.locFree.2.2 (q ▸ List.mem_map_of_mem (f := (·.1)) hp)).trans ho, b⟩
  · rw [lookup_setL] at hy
    by_cases h : y = x
    · subst h; rw [if_pos rfl] at hy; cases hy; exact ⟨val, by simp, r⟩
    · rw [if_neg h] at hy
      obtain ⟨w, q, r'⟩ := hm y u hy hk
      exact ⟨w, by simp [h, q], r'⟩
  · rw [lookup_setL] at hy
    by_cases h : y = x
    · subst h; rw [hl] at hk; cases hk
    · rw [if_neg h] at hy
      obtain ⟨c, w, a, b, d⟩ := hR.cells y u hy hk
      exact ⟨c, w, a, b.sameBut hs (hR.cellsOk (y, c) (mem_of_lookup a)).2.2.2.1, d⟩
  · obtain ⟨⟨ov, a⟩, b1, b2, b3, b4⟩ := hR.cellsOk p hp
    exact ⟨⟨ov, a.sameBut hs b3⟩, b1, b2, b3, b4⟩

theorem R.storeC (hR : R C zs σ z s) {x : Str} {v : V} {val : Value} {c : Addr} {h' : Heap} (hl : C.env.kindOf x = some .cell) (hc : C.env.cells.lookup x = some c) (hro : x ∉ C.ro) (r : Rep z v val)
    (hn : h'.IsCell c (some val)) (hs : Heap.SameBut c s.heap h') : R C zs ⟨setL σ.loc x v, σ.H⟩ z { s with heap := h' } := by
  obtain ⟨⟨ov, hcell⟩, k1, k2, k3, k4⟩ := hR.cellsOk (x, c) (mem_of_lookup hc)
  have k2 := k2.resolve_right hro
  have ne : ∀ b o, z b = some o → b ≠ c := fun b o e q => by subst q; rw [k1] at e; cases e
  have nes : ∀ b o, zs b = some o → b ≠ c := fun b o e q => by subst q; rw [k2] at e; cases e
  refine ⟨⟨fun b o e => (hs.2 b (ne b o e)).trans (hR.rh.hz b o e), hR.rh.hbase, fun b o e => ?_, hR.rh.disj, fun p hp => ?_, hR.rh.nodup, hR.rh.gens, hR.rh.os⟩, ?_, fun y u hy hk => ?_, fun p hp => ?_, hR.locFree, hR.fr⟩
  · obtain ⟨sl, q, w⟩ := hR.rh.hzs b o e
    exact ⟨sl, (hs.2 b (nes b o e)).trans q, w⟩
  · obtain ⟨a, b⟩ := hR.rh.hH p hp
    exact ⟨a.keep fun o ho => (hs.2 _ fun q => k4 (q ▸ List.mem_map_of_mem (f := (·.1)) hp)).trans ho, b⟩
  · obtain ⟨m, n, hm⟩ := hR.ns
    refine ⟨m, n.sameBut hs (Ne.symm k3), fun y u hy hk => ?_⟩
    rw [lookup_setL] at hy
    by_cases h : y = x
    · subst h; rw [hl] at hk; cases hk
    · rw [if_neg h] at hy; exact hm y u hy hk
  · rw [lookup_setL] at hy
    by_cases h : y = x
    · subst h; rw [if_pos rfl] at hy; cases hy; exact ⟨c, val, hc, hn, r⟩
    · rw [if_neg h] at hy
      obtain ⟨c', w, a, b, d⟩ := hR.cells y u hy hk
      refine ⟨c', w, a, b.sameBut hs fun e => h ?_, d⟩
      subst e
      exact name_of_addr C.apart (mem_of_lookup a) (mem_of_lookup hc)
  · obtain ⟨⟨ov', a⟩, b1, b2, b3, b4⟩ := hR.cellsOk p hp
    by_cases e : p.2 = c
    · exact ⟨⟨_, by rw [e]; exact hn⟩, b1, b2, b3, b4⟩
    · exact ⟨⟨ov', a.sameBut hs e⟩, b1, b2, b3, b4⟩

/-- a name that can be stored: a local one, or a cell's -/
inductive Stores (C : Cx) (x : Str) : Prop
  | loc (h : C.env.kindOf x = some .local)
  | cell (c : Addr) (h : C.env.kindOf x = some .cell) (hc : C.env.cells.lookup x = some c) (hro : x ∉ C.ro)

theorem TT.store {x : Str} {v : V} {val : Value} {P : Z → Unit → St → Prop} (k : Stores C x) (r : Rep z₀ v val) (h : ∀ z, Z.le z₀ z → P z () ⟨setL σ.loc x v, σ.H⟩) : TT C z₀ (bindName C.env x val) P X σ := by
  intro zs z s hz hR
  refine wpAny_bindName ?_
  cases k with
  | loc hl =>
    obtain ⟨m, hn, hm⟩ := hR.ns
    refine wpAny_storeName_local hl hn (fun h' hn' hs' => ⟨z, _, Z.le_refl _, hR.storeL hm hl (r.mono hz) hn' hs', h z hz⟩) ?_
    rw [C.hk]; rfl
  | cell c hl hc hro =>
    obtain ⟨⟨ov, hcell⟩, _⟩ := hR.cellsOk (x, c) (mem_of_lookup hc)
    exact wpAny_storeName_cell C.hk hl hc hcell fun h' hn' hs' => ⟨z, _, Z.le_refl _, hR.storeC hl hc hro (r.mono hz) hn' hs', h z hz⟩

/-! statements -/
theorem TSs.nil {Q : Fl → St → Prop} (h : Q .next σ) : TSs C [] Q X σ := fun z₀ => TT.pure fun z _ => ⟨.next, .next, h⟩
noncomputable abbrev Nx (C : Cx) (r : List Stmt) (Q : Fl → St → Prop) (X : XP) : Fl → St → Prop := fun f σ1 => match f with
  | .next => TSs C r Q X σ1
  | f => Q f σ1
theorem TSs.cons {st : Stmt} {r : List Stmt} {Q : Fl → St → Prop} (h : TS C st (Nx C r Q X) X σ) : TSs C (st :: r) Q X σ := by
  intro z₀
  rw [execs_cons]
  refine TT.bind (TT.mono (h z₀) ?_)
  rintro z f σ1 l ⟨fl, rf, h1⟩
  cases rf with
  | next => exact h1 z
  | brk => exact TT.pure fun z' l' => ⟨.brk, .brk, h1⟩
  | cont => exact TT.pure fun z' l' => ⟨.cont, .cont, h1⟩
  | ret rv => exact TT.pure fun z' l' => ⟨.ret _, .ret (rv.mono l'), h1⟩
theorem TS.brk {p : Pos} {Q : Fl → St → Prop} (h : Q .brk σ) : TS C (.Break p) Q X σ := fun z₀ => by
  rw [arm_exec_Break]; exact TT.at_ (TT.pure fun z _ => ⟨.brk, .brk, h⟩)
theorem TS.cont {p : Pos} {Q : Fl → St → Prop} (h : Q .cont σ) : TS C (.Continue p) Q X σ := fun z₀ => by
  rw [arm_exec_Continue]; exact TT.at_ (TT.pure fun z _ => ⟨.cont, .cont, h⟩)
theorem TS.ret {e : Expr} {p : Pos} {Q : Fl → St → Prop} (h : TE C e (fun v σ1 => Q (.ret v) σ1) X σ) : TS C (.Return (some e) p) Q X σ := fun z₀ => by
  rw [exec_Return_some]
  refine TT.at_ (TT.bind (TT.mono (h z₀) ?_))
  rintro z x σ1 l ⟨v, r, h1⟩
  exact TT.pure fun z' l' => ⟨.ret v, .ret (r.mono l'), h1⟩
theorem TS.if_ {t : Expr} {b o : List Stmt} {p : Pos} {Q : Fl → St → Prop} (h : TB C t (fun c σ1 => if c then TSs C b Q X σ1 else TSs C o Q X σ1) X σ) : TS C (.If t b o p) Q X σ := fun z₀ => by
  rw [exec_If]
  refine TT.at_ (TT.bind (TT.mono (h z₀) ?_))
  rintro z c σ1 l h1
  cases c
  · exact h1 z
  · exact h1 z
theorem TS.assign {x : Str} {p p' : Pos} {e : Expr} {Q : Fl → St → Prop} (k : Stores C x) (h : TE C e (fun v σ1 => Q .next ⟨setL σ1.loc x v, σ1.H⟩) X σ)
    (hs : swapsWith e (some (.Name x p')) p.line C.env = pure false := by rfl) : TS C (.Assign [.Name x p'] e p) Q X σ := fun z₀ => by
  rw [exec_Assign_Name C.env x p' e p hs]
  refine TT.at_ (TT.bind (TT.mono (h z₀) ?_))
  rintro z val σ1 l ⟨v, r, h1⟩
  exact TT.at_ (TT.bind (TT.store k r fun z' l' => TT.pure fun z'' _ => ⟨.next, .next, h1⟩))
theorem TS.aug {x : Str} {p p' : Pos} {op : Operator} {e : Expr} {v : V} {Q : Fl → St → Prop} (k : Stores C x) (hv : σ.loc.lookup x = some v)
    (h : TE C e (fun w σ1 => Inp C op v w (fun u σ2 => Q .next ⟨setL σ2.loc x u, σ2.H⟩) X σ1) X σ) : TS C (.AugAssign (.Name x p') op e p) Q X σ := fun z₀ => by
  rw [exec_AugAssign_Name]
  refine TT.at_ (TT.bind (f := fun old => _) (m := loadName C.env x) ?_)
  intro zs z s hz hR
  have go : ∀ val, Rep z v val → Post C zs z (fun z a σ1 => TT C z (do
      let v ← holding [a] (eval e C.env)
      standAt p
      let new ← operate [a, v] (inplaceOp op a v)
      standAt p'
      bindName C.env x new
      pure Flow.next) (PFl Q) X σ1) val s := by
    intro val r
    refine ⟨z, σ, Z.le_refl _, hR, ?_⟩
    refine TT.bind (TT.holding (TT.mono (h z) ?_))
    rintro z1 w σ1 l1 ⟨vw, rw', h1⟩
    refine TT.at_ (TT.bind (TT.operate (TT.mono (h1 z1 val w (r.mono l1) rw') ?_)))
    rintro z2 u σ2 l2 ⟨vu, ru, h2⟩
    exact TT.at_ (TT.bind (TT.store k ru fun z' l' => TT.pure fun z'' _ => ⟨.next, .next, h2⟩))
  cases k with
  | loc hl =>
    obtain ⟨m, hn, hm⟩ := hR.ns
    obtain ⟨val, e', r⟩ := hm x v hv hl
    exact wpAny_loadName_local C.hk hl hn e' (go val r)
  | cell c hl hc hro =>
    obtain ⟨c', val, e', hc', r⟩ := hR.cells x v hv (by rw [hl]; rfl)
    exact wpAny_loadName_cell C.hk hl e' hc' (go val r)
theorem TSs.weaken {st : List Stmt} {Q : Fl → St → Prop} {σ' : St} (h1 : ∀ x v, σ'.loc.lookup x = some v → σ.loc.lookup x = some v) (h2 : σ'.H.Sublist σ.H) (h : TSs C st Q X σ') : TSs C st Q X σ := fun z₀ => (h z₀).weaken h1 h2
theorem TE.mono {e : Expr} {Q Q' : V → St → Prop} (h : TE C e Q X σ) (k : ∀ f σ, Q f σ → Q' f σ) : TE C e Q' X σ := fun z₀ => (h z₀).mono fun z f σ' _ ⟨fl, r, q⟩ => ⟨fl, r, k _ _ q⟩
theorem TB.mono {e : Expr} {Q Q' : Bool → St → Prop} (h : TB C e Q X σ) (k : ∀ f σ, Q f σ → Q' f σ) : TB C e Q' X σ := fun z₀ => (h z₀).mono fun z f σ' _ q => k _ _ q
end
end PL

end
section
open PySem PySem.Calls PyProof.Rows
set_option Elab.async false
set_option linter.unusedVariables false
set_option linter.unusedSimpArgs false
namespace PL

section
variable {C : Cx} {X : XP} {σ : St} {Q : V → St → Prop} {i j : Int} {b c : Bool}

theorem Bin.add_int (h : Q (.int (i + j)) σ) : Bin C .Add (.int i) (.int j) Q X σ := by
  intro z₀ x0 x1 w0 w1 zs z s hz hR
  have w0q := w0.e; clear w0; obtain ⟨_, rfl⟩ := w0q
  have w1q := w1.e; clear w1; obtain ⟨_, rfl⟩ := w1q
  exact P.add_int (PVal.toks hR (.int _ _) h)
theorem Bin.sub_int (h : Q (.int (i - j)) σ) : Bin C .Sub (.int i) (.int j) Q X σ := by
  intro z₀ x0 x1 w0 w1 zs z s hz hR
  have w0q := w0.e; clear w0; obtain ⟨_, rfl⟩ := w0q
  have w1q := w1.e; clear w1; obtain ⟨_, rfl⟩ := w1q
  exact P.sub_int (PVal.toks hR (.int _ _) h)
theorem Bin.fdiv_int (hj : j ≠ 0) (hp : Builtin.divisionGoesByPylong i j = false) (h : Q (.int (i.fdiv j)) σ) : Bin C .FloorDiv (.int i) (.int j) Q X σ := by
  intro z₀ x0 x1 w0 w1 zs z s hz hR
  have w0q := w0.e; clear w0; obtain ⟨_, rfl⟩ := w0q
  have w1q := w1.e; clear w1; obtain ⟨_, rfl⟩ := w1q
  exact floordiv_int hj (PVal.toks hR (.int _ _) h) (.inl hp)
theorem Bin.mod_int (hj : j ≠ 0) (h : Q (.int (i.fmod j)) σ) : Bin C .Mod (.int i) (.int j) Q X σ := by
  intro z₀ x0 x1 w0 w1 zs z s hz hR
  have w0q := w0.e; clear w0; obtain ⟨_, rfl⟩ := w0q
  have w1q := w1.e; clear w1; obtain ⟨_, rfl⟩ := w1q
  exact mod_int' hj (PVal.toks hR (.int _ _) h)
theorem Un.neg_int (h : Q (.int (-i)) σ) : Un C .USub (.int i) Q X σ := by
  intro z₀ x0 w0 zs z s hz hR
  have w0q := w0.e; clear w0; obtain ⟨_, rfl⟩ := w0q
  exact P.neg_int (PVal.toks hR (.int _ _) h)
theorem Cmp.eq_int (h : Q (.bool (i == j)) σ) : Cmp C .Eq (.int i) (.int j) Q X σ := by
  intro z₀ x0 x1 w0 w1 zs z s hz hR
  have w0q := w0.e; clear w0; obtain ⟨_, rfl⟩ := w0q
  have w1q := w1.e; clear w1; obtain ⟨_, rfl⟩ := w1q
  exact P.eq_int (PVal.same hR (.bool _) h)
theorem Cmp.lt_int (h : Q (.bool (decide (i < j))) σ) : Cmp C .Lt (.int i) (.int j) Q X σ := by
  intro z₀ x0 x1 w0 w1 zs z s hz hR
  have w0q := w0.e; clear w0; obtain ⟨_, rfl⟩ := w0q
  have w1q := w1.e; clear w1; obtain ⟨_, rfl⟩ := w1q
  exact P.lt_int (PVal.same hR (.bool _) h)
theorem ofNat_inj {a b : Nat} (ha : a < 256) (hb : b < 256) (h : UInt8.ofNat a = UInt8.ofNat b) : a = b := by
  have := congrArg UInt8.toNat h
  simp only [UInt8.toNat_ofNat'] at this
  (clear h; (first | lia | omega))
theorem map_ofNat_inj : ∀ {l m : List Nat}, (∀ c ∈ l, c < 256) → (∀ c ∈ m, c < 256) → l.map UInt8.ofNat = m.map UInt8.ofNat → l = m
  | [], [], _, _, _ => rfl
  | [], _ :: _, _, _, h => by simp at h
  | _ :: _, [], _, _, h => by simp at h
  | a :: l, b :: m, hl, hm, h => by
    rw [List.map_cons, List.map_cons, List.cons.injEq] at h
    rw [ofNat_inj (hl a List.mem_cons_self) (hm b List.mem_cons_self) h.1, map_ofNat_inj (fun c hc => hl c (List.mem_cons_of_mem _ hc)) (fun c hc => hm c (List.mem_cons_of_mem _ hc)) h.2]
theorem beq_ofNat {l m : List Nat} (hl : ∀ c ∈ l, c < 256) (hm : ∀ c ∈ m, c < 256) : ((l.map UInt8.ofNat) == (m.map UInt8.ofNat)) = (l == m) := by
  rw [Bool.eq_iff_iff, beq_iff_eq, beq_iff_eq]
  exact ⟨map_ofNat_inj hl hm, fun e => by rw [e]⟩

variable {o : Bool} {l m : List Nat}
theorem Cmp.eq_txt (h : Q (.bool (l == m)) σ) : Cmp C .Eq (.txt o l) (.txt o m) Q X σ := by
  intro z₀ x y rx ry zs z s hz hR
  have rxq := rx.txt_; clear rx; rcases rxq with ⟨rfl, t, rfl⟩ | ⟨rfl, t, rfl, hl⟩
  · have ryq := ry.e; clear ry; obtain ⟨u, rfl⟩ := ryq
    exact P.eq_str (PVal.same hR (.bool _) h)
  · have ryq := ry.e; clear ry; obtain ⟨u, rfl, hm⟩ := ryq
    refine PySem.W.eq_bytes ?_
    rw [List.toList_toArray, List.toList_toArray, beq_ofNat hl hm]
    exact PVal.same hR (.bool _) h
theorem Cmp.ne_txt (h : Q (.bool (l != m)) σ) : Cmp C .NotEq (.txt o l) (.txt o m) Q X σ := by
  intro z₀ x y rx ry zs z s hz hR
  have rxq := rx.txt_; clear rx; rcases rxq with ⟨rfl, t, rfl⟩ | ⟨rfl, t, rfl, hl⟩
  · have ryq := ry.e; clear ry; obtain ⟨u, rfl⟩ := ryq
    exact P.ne_str (PVal.same hR (.bool _) h)
  · have ryq := ry.e; clear ry; obtain ⟨u, rfl, hm⟩ := ryq
    refine PySem.W.ne_bytes ?_
    rw [List.toList_toArray, List.toList_toArray, bne, beq_ofNat hl hm]
    exact PVal.same hR (.bool _) h

/-! truth -/
variable {QB : Bool → St → Prop}
theorem Tru.bool (h : QB b σ) : Tru C (.bool b) QB X σ := by
  intro z₀ x0 w0 zs z s hz hR
  have w0q := w0.e; clear w0; obtain ⟨_, rfl⟩ := w0q
  exact wpAny_truthy_bool ⟨z, σ, Z.le_refl _, hR, h⟩
theorem len_ne0 {α : Type} (l : List α) : ((l.length : Int) != 0) = !l.isEmpty := by cases l <;> simp [bne] <;> (first | lia | omega)
theorem Tru.txt (hn : l.length ≤ 16777216) (h : QB (!l.isEmpty) σ) : Tru C (.txt o l) QB X σ := by
  intro z₀ x r zs z s hz hR
  rw [← len_ne0] at h
  have rq := r.txt_; clear r; rcases rq with ⟨rfl, t, rfl⟩ | ⟨rfl, t, rfl, hl⟩
  · exact P.truthy_str (x := ⟨l.toArray⟩) (by simp [Str.length]; (clear t hR hz s z zs z₀ h QB σ X C; (first | lia | omega))) ⟨z, σ, Z.le_refl _, hR.toks _, by simpa [Str.length] using h⟩
  · exact PySem.W.truthy_bytes (by simp; (clear hl t hR hz s z zs z₀ h QB σ X C; (first | lia | omega))) ⟨z, σ, Z.le_refl _, hR.toks _, by simpa using h⟩

theorem rep_tupO {z : Z} {vs : List V} {x : Value} (r : Rep z (.tup vs) x) {zs : Z} {s : Shared} (hR : R C zs σ z s) : ∃ a items n, x = .ref a ∧ s.heap.get? a = some (tupO items n) ∧ RepL z vs items := by
  have rq := r.e; clear r; obtain ⟨_, _, _, rfl, e, hr⟩ := rq
  exact ⟨_, _, _, rfl, hR.rh.hz _ _ e, hr⟩
theorem rep_isTup {z : Z} {vs : List V} {x : Value} (r : Rep z (.tup vs) x) {zs : Z} {s : Shared} (hR : R C zs σ z s) : ∃ a items, x = .ref a ∧ IsTup s.heap a items.toArray ∧ RepL z vs items :=
  let ⟨a, items, n, e, h, q⟩ := rep_tupO r hR; ⟨a, items, e, ⟨_, h, rfl, _, rfl⟩, q⟩

/-- a list that can be read: frozen, or on the ledger -/
inductive IsL (σ : St) : V → List V → Prop
  | fz (vs : List V) : IsL σ (.lst vs) vs
  | mt {a : Addr} {vs : List V} (h : (a, AO.list vs) ∈ σ.H) : IsL σ (.ref a) vs
theorem IsL.obj {v : V} {vs : List V} (k : IsL σ v vs) {z₀ z zs : Z} {s : Shared} {x : Value} (r : Rep z₀ v x) (hz : Z.le z₀ z) (hR : R C zs σ z s) :
    ∃ a items n, x = .ref a ∧ s.heap.get? a = some (lstO items n) ∧ RepL z vs items := by
  cases k with
  | fz =>
    have rq := r.e; clear r; obtain ⟨_, _, _, rfl, e, hr⟩ := rq
    exact ⟨_, _, _, rfl, hR.rh.hz _ _ (hz _ _ e), hr.mono hz⟩
  | mt hm =>
    have rq := r.e; clear r; obtain ⟨_, rfl⟩ := rq
    obtain ⟨⟨items, n, p, q⟩, _⟩ := hR.rh.hH _ hm
    exact ⟨_, items, n, rfl, p, q⟩
theorem IsL.at {v : V} {vs : List V} (k : IsL σ v vs) {z₀ z zs : Z} {s : Shared} {x : Value} (r : Rep z₀ v x) (hz : Z.le z₀ z) (hR : R C zs σ z s) :
    ∃ a items, x = .ref a ∧ s.heap.IsList a (items : List Value).toArray ∧ RepL z vs items :=
  let ⟨a, items, n, e, h, q⟩ := k.obj r hz hR; ⟨a, items, e, ⟨_, h, rfl, _, rfl⟩, q⟩

theorem Tru.list {v : V} {vs : List V} (k : IsL σ v vs) (hn : vs.length ≤ 16777216) (h : QB (!vs.isEmpty) σ) : Tru C v QB X σ := by
  intro z₀ x r zs z s hz hR
  obtain ⟨a, items, rfl, p, q⟩ := k.at r hz hR
  refine wpAny_truthy_list p (by rw [List.size_toArray, q.length]; (clear q p r items a hR hz s z zs z₀ h k v; (first | lia | omega))) ⟨z, σ, Z.le_refl _, hR.toks _, ?_⟩
  have : items.toArray.isEmpty = vs.isEmpty := by
    rw [List.isEmpty_toArray]
    have := q.length
    cases items <;> cases vs <;> simp_all
  rw [this]; exact h
theorem Tru.tup {vs : List V} (hn : vs.length ≤ 16777216) (h : QB (!vs.isEmpty) σ) : Tru C (.tup vs) QB X σ := by
  intro z₀ x r zs z s hz hR
  obtain ⟨a, items, rfl, p, q⟩ := rep_isTup (r.mono hz) hR
  refine truthy_tuple p (by rw [List.size_toArray, q.length]; (clear q p r items a hR hz s z zs z₀ h; (first | lia | omega))) ⟨z, σ, Z.le_refl _, hR.toks _, ?_⟩
  have : items.toArray.isEmpty = vs.isEmpty := by
    rw [List.isEmpty_toArray]
    have := q.length
    cases items <;> cases vs <;> simp_all
  rw [this]; exact h
end
end PL

end
section
open PySem PySem.Calls PyProof.Rows
set_option Elab.async false
set_option linter.unusedVariables false
set_option linter.unusedSimpArgs false
namespace PL

/-! plain functions on texts -/
noncomputable def sl {α : Type} (l : List α) (lo hi : Option Int) : List α := (l.drop (lo.elim 0 (clipAt l.length))).take (hi.elim l.length (clipAt l.length) - lo.elim 0 (clipAt l.length))

/-- the place behind the last `c`, 0 where there is none -/
noncomputable def cut (c : Nat) : List Nat → Nat
  | [] => 0
  | x :: r => if cut c r ≠ 0 then cut c r + 1 else if x = c then 1 else 0
noncomputable def splitS (c : Nat) : List Nat → List (List Nat)
  | [] => [[]]
  | x :: r => if x = c then [] :: splitS c r else match splitS c r with
    | [] => [[x]]
    | p :: ps => (x :: p) :: ps
noncomputable def joinS (sep : List Nat) : List (List Nat) → List Nat
  | [] => []
  | [p] => p
  | p :: q :: r => p ++ sep ++ joinS sep (q :: r)
noncomputable def rstripS (c : Nat) (l : List Nat) : List Nat := (l.reverse.dropWhile (· == c)).reverse

theorem cut_spec (c : Nat) : ∀ l : List Nat, (cut c l = 0 ∧ ∀ i : Nat, l[i]? ≠ some c) ∨ ∃ k : Nat, cut c l = k + 1 ∧ l[k]? = some c ∧ ∀ j, k < j → l[j]? ≠ some c
  | [] => .inl ⟨rfl, fun i => by simp⟩
  | x :: r => by
    unfold cut
    rcases cut_spec c r with ⟨h0, h⟩ | ⟨k, h0, h1, h2⟩
    · rw [if_neg (by simp [h0])]
      by_cases hx : x = c
      · rw [if_pos hx]
        refine .inr ⟨0, rfl, by simp [hx], fun j hj => ?_⟩
        cases j with
        | zero => (clear hx h h0; (first | lia | omega))
        | succ j => simpa using h j
      · rw [if_neg hx]
        refine .inl ⟨rfl, fun i => ?_⟩
        cases i with
        | zero => simpa using hx
        | succ j => simpa using h j
    · rw [if_pos (by (clear h2 h1 x; (first | lia | omega))), h0]
      refine .inr ⟨k + 1, rfl, by simpa using h1, fun j hj => ?_⟩
      cases j with
      | zero => (clear h2 h1 h0; (first | lia | omega))
      | succ j => simpa using h2 j (by (clear h2 h1 h0 x r c; (first | lia | omega)))
theorem cut_le (c : Nat) : ∀ l : List Nat, cut c l ≤ l.length
  | [] => Nat.le_refl _
  | x :: r => by
    have := cut_le c r
    unfold cut
    (repeat' split) <;> simp <;> (clear x; (first | lia | omega))

theorem splitS_ne (c : Nat) : ∀ l, splitS c l ≠ []
  | [] => by simp [splitS]
  | x :: r => by
    unfold splitS
    split
    · simp
    · split <;> simp
/-- the parts are told by what they are -/
theorem splitS_join (c : Nat) : ∀ (ps : List (List Nat)), ps ≠ [] → (∀ p ∈ ps, c ∉ p) → splitS c (joinS [c] ps) = ps
  | [], h, _ => absurd rfl h
  | [p], hn, h => by
    have hp := h p (by simp)
    show splitS c p = [p]
    clear h hn
    induction p with
    | nil => rfl
    | cons x r ih =>
      rw [List.mem_cons, not_or] at hp
      unfold splitS
      rw [if_neg (Ne.symm hp.1), ih hp.2]
  | p :: q :: r, hn, h => by
    have ih := splitS_join c (q :: r) (by simp) fun x hx => h x (List.mem_cons_of_mem _ hx)
    have hp := h p (by simp)
    show splitS c (p ++ [c] ++ joinS [c] (q :: r)) = _
    rw [List.append_assoc]
    clear h hn
    induction p with
    | nil => simp only [List.nil_append, List.cons_append]; unfold splitS; rw [if_pos rfl, ih]
    | cons x s ih2 =>
      rw [List.mem_cons, not_or] at hp
      rw [List.cons_append]
      unfold splitS
      rw [if_neg (Ne.symm hp.1), ih2 hp.2]

section
open Builtin Builtin.Str
theorem at_one (l : List Nat) (c i : Nat) : StrLaws.At ⟨l.toArray⟩ ⟨#[c]⟩ (⟨l.toArray⟩ : Str).length i ↔ l[i]? = some c := by
  have := StrLaws.subAt_one ⟨l.toArray⟩ c i
  simpa [StrLaws.At] using this
theorem str_rfind (l : List Nat) (c : Nat) : Txt.rfind ⟨l.toArray⟩ ⟨#[c]⟩ = (cut c l : Int) - 1 := by
  rcases rfind_whole ⟨l.toArray⟩ ⟨#[c]⟩ with ⟨h, n⟩ | ⟨i, h, hat, n⟩
  · rw [h]
    rcases cut_spec c l with ⟨h0, _⟩ | ⟨k, h0, h1, _⟩
    · rw [h0]; rfl
    · exact absurd ((at_one l c k).mpr h1) (n k)
  · rw [h]
    have hi := (at_one l c i).mp hat
    rcases cut_spec c l with ⟨h0, h1⟩ | ⟨k, h0, h1, h2⟩
    · exact absurd hi (h1 i)
    · rw [h0]
      have a : ¬ i < k := fun q => n k q ((at_one l c k).mpr h1)
      have b : ¬ k < i := fun q => h2 i q hi
      have : i = k := by (clear h2 h1 h0 hi n hat h c l; (first | lia | omega))
      subst this
      (clear b a h2 h1 h0 hi n hat h c l; (first | lia | omega))
theorem str_join (sep : List Nat) : ∀ ps : List (List Nat), Str.join (strOf sep) (ps.map strOf) = strOf (joinS sep ps)
  | [] => rfl
  | [p] => rfl
  | p :: q :: r => by
    have ih := str_join sep (q :: r)
    show strOf p ++ strOf sep ++ Str.join (strOf sep) ((q :: r).map strOf) = _
    rw [ih]
    apply Str.ext'
    simp [Str.cps_append, strOf, joinS]
theorem strOf_list (x : Str) : strOf x.cps.toList = x := by simp [strOf]
theorem str_split (l : List Nat) (c : Nat) : Txt.split ⟨l.toArray⟩ ⟨#[c]⟩ = (splitS c l).map strOf := by
  let ps := (Txt.split ⟨l.toArray⟩ ⟨#[c]⟩).map fun p => p.cps.toList
  have hps : ps.map strOf = Txt.split ⟨l.toArray⟩ ⟨#[c]⟩ := by
    simp only [ps, List.map_map]
    conv => rhs; rw [← List.map_id (Txt.split ⟨l.toArray⟩ ⟨#[c]⟩)]
    apply List.map_congr_left
    intro p _
    exact strOf_list p
  have hj := StrLaws.join_split ⟨l.toArray⟩ ⟨#[c]⟩
  rw [← hps] at hj
  have hj2 : joinS [c] ps = l := by
    have := str_join [c] ps
    rw [show strOf [c] = ⟨#[c]⟩ from rfl, hj] at this
    have := congrArg (fun s => s.cps.toList) this
    simpa [strOf] using this.symm
  have hfree : ∀ p ∈ ps, c ∉ p := by
    intro p hp
    obtain ⟨q, hq, rfl⟩ := List.mem_map.mp hp
    exact StrLaws.split_free ⟨l.toArray⟩ c q hq
  by_cases hne : ps = []
  · exfalso
    have h0 : Txt.split ⟨l.toArray⟩ ⟨#[c]⟩ = [] := by
      have := congrArg List.length hne
      simpa [ps] using this
    unfold Txt.split at h0
    split at h0
    · cases h0
    · split at h0
      · cases h0
      · rw [StrLaws.partsBetween_eq] at h0
        obtain ⟨p, r, e⟩ := StrLaws.partsFrom_ne ⟨l.toArray⟩ (⟨#[c]⟩ : Str).length 0 (occurrences ⟨l.toArray⟩ ⟨#[c]⟩ 0 (⟨l.toArray⟩ : Str).length ((⟨l.toArray⟩ : Str).length + 1))
        rw [e] at h0
        cases h0
  · rw [← hps, ← splitS_join c ps hne hfree, hj2]
end
end PL

end
section
open PySem PySem.Calls PyProof.Rows
set_option Elab.async false
set_option linter.unusedVariables false
set_option linter.unusedSimpArgs false
namespace PL

/-! subscripts -/
section
variable {C : Cx} {X : XP} {σ : St} {Q : V → St → Prop}

noncomputable def Item (C : Cx) (o i : V) (Q : V → St → Prop) (X : XP) (σ : St) : Prop := ∀ value slice z₀ x y, Rep z₀ o x → Rep z₀ i y → TT C z₀ (subscriptTail value slice x y) (PVal Q) X σ
theorem subscripted_ops (slice : Expr) (x y : Value) : ∃ ops, subscripted slice false x y = operate ops (getItem x y) := by
  cases slice with
  | Slice l u s p => cases s <;> exact ⟨_, rfl⟩
  | _ => exact ⟨_, rfl⟩
theorem TE.sub {value slice : Expr} {pos : Pos} (h : TE C value (fun o σ1 => TE C slice (fun i σ2 => Item C o i Q X σ2) X σ1) X σ) : TE C (.Subscript value slice pos) Q X σ := by
  intro z₀
  have e : eval (.Subscript value slice pos) C.env = (do let o ← eval value C.env; let i ← holding [o] (eval slice C.env); standAt pos; subscriptTail value slice o i) := by rw [eval_Subscript]; rfl
  rw [e]
  refine TT.bind (TT.mono (h z₀) ?_)
  rintro z a σ1 l1 ⟨va, ra, h1⟩
  refine TT.bind (TT.holding (TT.mono (h1 z) ?_))
  rintro z' b σ2 l2 ⟨vb, rb, h2⟩
  exact TT.at_ (h2 value slice z' a b (ra.mono l2) rb)

theorem tail_of {M : Model} {A : Around} {E : Value → Shared → Prop} {s : Shared} {value slice : Expr} {o i : Value} {T id : String} {Q : Value → Shared → Prop} (hT : s.TypeIs o T)
    (hl : typeLookup (.type T) "__getitem__" = pure (some (.builtin id))) {prog : Program} {w : World} (hM : M = model prog w) (hg : wpAny M A (getItem o i) Q E s) : wpAny M A (subscriptTail value slice o i) Q E s := by
  obtain ⟨ops, hs⟩ := subscripted_ops slice o i
  subst hM
  exact tail_any hT hl hg hs

theorem seqIndex_ok {k : Int} {n j : Nat} (h : (if k < 0 then k + n else k) = (j : Int)) (hj : j < n) : seqIndex? k n = some j := by
  unfold seqIndex?
  by_cases hk : k < 0
  · simp only [hk, if_true] at h ⊢
    rw [h]; simp [hj]
  · simp only [hk, if_false] at h ⊢
    rw [h]; simp [hj]

/-- which place an index tells -/
noncomputable def At (k : Int) (n j : Nat) : Prop := (if k < 0 then k + n else k) = (j : Int) ∧ j < n

theorem Item.list {v : V} {vs : List V} {k : Int} {j : Nat} {u : V} (hl : IsL σ v vs) (hn : vs.length ≤ 16777216) (ha : At k vs.length j) (hu : vs[j]? = some u) (h : Q u σ) : Item C v (.int k) Q X σ := by
  intro value slice z₀ x x0 rx w0 zs z s hz hR
  have w0q := w0.e; clear w0; obtain ⟨_, rfl⟩ := w0q
  obtain ⟨a, items, rfl, p, q⟩ := hl.at rx hz hR
  obtain ⟨xv, hx, r⟩ := q.get hu
  obtain ⟨h1, h2⟩ := ha
  have hlen := q.length
  refine tail_of p.typeIs slot_list_getitem.lookup rfl ?_
  by_cases hk : k < 0
  · rw [if_pos hk] at h1
    refine wpAny_getItem_list_neg p hk (by rw [List.size_toArray, hlen]; (clear hk hlen h2 r hx xv q p rx a hR hz s z zs z₀ slice value h hu hn hl u v items; (first | lia | omega))) (by (clear hk h2 r hx xv q p rx a hR hz s z zs z₀ slice value h hu hl u v hlen items; (first | lia | omega))) (x := xv) ?_ (PVal.same hR r h)
    rw [List.size_toArray, hlen, h1]; simpa using hx
  · rw [if_neg hk] at h1
    refine wpAny_getItem_list p (by (clear hk hlen h2 r hx xv q p rx a hR hz s z zs z₀ slice value h hu hn hl u v items vs; (first | lia | omega))) (by (clear hk r hx xv q p rx a hR hz s z zs z₀ slice value h hu hl u v hlen items; (first | lia | omega))) (x := xv) ?_ (PVal.same hR r h)
    rw [h1]; simpa using hx
theorem Item.tup {vs : List V} {k : Int} {j : Nat} {u : V} (hn : vs.length ≤ 16777216) (ha : At k vs.length j) (hu : vs[j]? = some u) (h : Q u σ) : Item C (.tup vs) (.int k) Q X σ := by
  intro value slice z₀ x x0 rx w0 zs z s hz hR
  have w0q := w0.e; clear w0; obtain ⟨_, rfl⟩ := w0q
  obtain ⟨a, items, rfl, p, q⟩ := rep_isTup (rx.mono hz) hR
  obtain ⟨xv, hx, r⟩ := q.get hu
  obtain ⟨h1, h2⟩ := ha
  have hlen := q.length
  have hT : s.TypeIs (.ref a) "tuple" := let ⟨o, ho, hc, _⟩ := p; ⟨o, ho, hc⟩
  refine tail_of hT PySem.F.slot_tuple_getitem.lookup rfl ?_
  refine getItem_tuple p (j := j) (x := xv) ?_ ?_ ?_ (by simpa using hx) (PVal.same hR r h)
  · by_cases hk : k < 0
    · rw [if_pos hk] at h1; (clear hk hT h2 r hx xv q p rx a hR hz s z zs z₀ slice value h hu u hlen items; (first | lia | omega))
    · rw [if_neg hk] at h1; (clear hk hT hlen h2 r hx xv q p rx a hR hz s z zs z₀ slice value h hu hn u items vs; (first | lia | omega))
  · by_cases hk : k < 0
    · (clear hT hlen h2 h1 r hx xv q p rx a hR hz s z zs z₀ slice value h hu hn u items j vs; (first | lia | omega))
    · rw [if_neg hk] at h1; (clear hk hT r hx xv q p rx a hR hz s z zs z₀ slice value h hu u hlen items; (first | lia | omega))
  · rw [List.size_toArray, hlen]; exact seqIndex_ok h1 h2
/-! slices -/
noncomputable def Slc (C : Cx) (o : V) (lo hi st : Option Int) (Q : V → St → Prop) (X : XP) (σ : St) : Prop :=
  ∀ value slice zs z s x a l u w, R C zs σ z s → Rep z o x → s.heap.IsSliceOf a l u w → IsPart l lo → IsPart u hi → IsPart w st →
    wpAny C.M C.A (subscriptTail value slice x (.ref a)) (Post C zs z (PVal Q)) (PX C zs z X) s
/-- a part of a slice -/
noncomputable def TOpt (C : Cx) (e : Option Expr) (Q : Option Int → St → Prop) (X : XP) (σ : St) : Prop :=
  ∀ z₀, TT C z₀ (evalPart e C.env) (fun z x σ' => ∃ i, IsPart x i ∧ Q i σ') X σ
theorem TOpt.none {Q : Option Int → St → Prop} (h : Q none σ) : TOpt C none Q X σ := fun z₀ => TT.eq (evalPart_none _) fun z _ => ⟨_, .none, h⟩
theorem TOpt.some {e : Expr} {Q : Option Int → St → Prop} (h : TE C e (fun v σ' => ∃ i, v = .int i ∧ Q (some i) σ') X σ) : TOpt C (some e) Q X σ := by
  intro z₀
  show TT C z₀ (eval e C.env) _ X σ
  refine TT.mono (h z₀) ?_
  rintro z x σ' l ⟨v, r, i, rfl, q⟩
  have rq := r.e; clear r; obtain ⟨t, rfl⟩ := rq
  exact ⟨_, .int i t, q⟩
theorem TE.subsl {value : Expr} {lo hi st : Option Expr} {p pos : Pos}
    (h : TE C value (fun o σ1 => TOpt C lo (fun a σ2 => TOpt C hi (fun b σ3 => TOpt C st (fun c σ4 => Slc C o a b c Q X σ4) X σ3) X σ2) X σ1) X σ) : TE C (.Subscript value (.Slice lo hi st p) pos) Q X σ := by
  intro z₀ zs z s hz hR
  refine Subscript_ (wpAny_mono (h z₀ zs z s hz hR) ?_ fun _ _ x => x)
  rintro o s1 ⟨z1, σ1, l1, R1, v, ro, h1⟩
  refine wpAny_Slice (wpAny_mono (h1 z1 zs z1 s1 (Z.le_refl _) R1) ?_ fun _ _ x => PX.le l1 x)
  rintro lv s2 ⟨z2, σ2, l2, R2, a, pa, h2⟩
  refine wpAny_mono (h2 z2 zs z2 s2 (Z.le_refl _) R2) ?_ fun _ _ x => PX.le (Z.le_trans l1 l2) x
  rintro uv s3 ⟨z3, σ3, l3, R3, b, pb, h3⟩
  refine wpAny_mono (h3 z3 zs z3 s3 (Z.le_refl _) R3) ?_ fun _ _ x => PX.le (Z.le_trans (Z.le_trans l1 l2) l3) x
  rintro wv s4 ⟨z4, σ4, l4, R4, c, pc, h4⟩
  have ll := Z.le_trans (Z.le_trans (Z.le_trans l1 l2) l3) l4
  refine wpAny_mono (h4 value (.Slice lo hi st p) zs z4 _ o s4.heap.objs.size lv uv wv (R4.push' _) (ro.mono (Z.le_trans (Z.le_trans l2 l3) l4)) (Heap.IsSliceOf.new ..) pa pb pc) ?_ fun _ _ x => PX.le ll x
  rintro r s5 ⟨z5, σ5, l5, R5, q⟩
  exact ⟨z5, σ5, Z.le_trans ll l5, R5, q⟩

/-- the places of a slice with a step -/
noncomputable def pick {α : Type} (l : List α) (lo hi st : Option Int) : List α :=
  (sliceRange (sliceBounds lo hi st l.length).1 (sliceBounds lo hi st l.length).2.1 (sliceBounds lo hi st l.length).2.2).filterMap (l[·]?)
theorem pick_plain {α : Type} (l : List α) (lo hi : Option Int) : pick l lo hi none = sl l lo hi := by
  unfold pick sl
  rw [sliceBounds_plain]
  have := sliceRange_one (lo.elim 0 (clipAt l.length)) (hi.elim l.length (clipAt l.length))
  simp only [this]
  have h := pick_run l.toArray (lo.elim 0 (clipAt l.length)) (hi.elim l.length (clipAt l.length) - lo.elim 0 (clipAt l.length))
  simpa using h
theorem RepL.pick {z : Z} {vs : List V} {xs : List Value} (r : RepL z vs xs) : ∀ idx : List Nat, RepL z (idx.filterMap (vs[·]?)) (idx.filterMap (xs[·]?))
  | [] => .nil
  | i :: idx => by
    have ih := r.pick idx
    cases h : vs[i]? with
    | none =>
      have hx : xs[i]? = none := by
        rw [List.getElem?_eq_none_iff] at h ⊢
        rw [r.length]; exact h
      simpa [List.filterMap_cons, h, hx] using ih
    | some v =>
      obtain ⟨x, hx, rx⟩ := r.get h
      simpa [List.filterMap_cons, h, hx] using RepL.cons rx ih
theorem Slc.list {v : V} {vs : List V} {lo hi st : Option Int} (hl : IsL σ v vs) (hn : vs.length ≤ 16777216) (h0 : st ≠ some 0) (h : Q (.lst (pick vs lo hi st)) σ) : Slc C v lo hi st Q X σ := by
  intro value slice zs z s x a l u w hR rx hs pl pu pw
  obtain ⟨b, items, rfl, p, q⟩ := hl.at rx (Z.le_refl _) hR
  refine tail_of p.typeIs slot_list_getitem.lookup rfl ?_
  have hlen := q.length
  refine wpAny_getItem_list_slice p hs pl pu pw h0 ?_ (by rw [List.size_toArray, hlen]; exact size_ok hn)
  obtain ⟨R', le⟩ := hR.frozen { cls := .type "list", data := .seq (slicePick items.toArray lo hi st) } s.toks
  have hq := q.pick (sliceRange (sliceBounds lo hi st vs.length).1 (sliceBounds lo hi st vs.length).2.1 (sliceBounds lo hi st vs.length).2.2)
  refine ⟨_, _, le, R', _, .lst (n := 0) (items := (sliceRange (sliceBounds lo hi st vs.length).1 (sliceBounds lo hi st vs.length).2.1 (sliceBounds lo hi st vs.length).2.2).filterMap (items[·]?)) ?_ (hq.mono le), h⟩
  rw [put_self]
  unfold slicePick
  rw [List.size_toArray, hlen]
  simp

theorem part_of {x : Value} {i : Option Int} (p : IsPart x i) : ∃ k : Option (Int × Tok), x = partValue k ∧ k.map (·.1) = i := by
  cases p with
  | none => exact ⟨none, rfl, rfl⟩
  | int i t => exact ⟨some (i, t), rfl, rfl⟩
theorem strIdx (lo hi : Option Int) (n : Nat) : Builtin.Str.strSliceIndices lo hi 1 n = sliceRange (sliceBounds lo hi none n).1 (sliceBounds lo hi none n).2.1 (sliceBounds lo hi none n).2.2 := by
  unfold Builtin.Str.strSliceIndices sliceBounds
  rfl
theorem sl_length_le {α : Type} (l : List α) (lo hi : Option Int) : (sl l lo hi).length ≤ l.length := by
  unfold sl; simp; (first | lia | omega)
theorem sl_whole {α : Type} {l : List α} {lo hi : Option Int} (h : (sl l lo hi).length = l.length) : sl l lo hi = l := by
  unfold sl at h ⊢
  rw [List.length_take, List.length_drop] at h
  by_cases e : lo.elim 0 (clipAt l.length) = 0
  · rw [e] at h ⊢
    rw [List.drop_zero, List.take_of_length_le (by (clear e lo; (first | lia | omega)))]
  · have : l.length = 0 := by (first | lia | omega)
    have : l = [] := List.length_eq_zero_iff.mp this
    subst this; simp
theorem Slc.str {l : List Nat} {lo hi : Option Int} (hn : l.length ≤ 16777216) (h : Q (.txt false (sl l lo hi)) σ) : Slc C (.txt false l) lo hi none Q X σ := by
  intro value slice zs z s x a lv uv wv hR rx hs pl pu pw
  have rxq := rx.e; clear rx; obtain ⟨t, rfl⟩ := rxq
  obtain ⟨kl, rfl, el⟩ := part_of pl
  obtain ⟨ku, rfl, eu⟩ := part_of pu
  cases pw
  refine tail_of (typeIs_str _ _ _) PySem.F.slot_str_getitem.lookup rfl ?_
  refine wpAny_getItem_str_slice (l := kl) (u := ku) (st := none) hs rfl ?_
  unfold sliceMade slicePicked
  rw [el, eu]
  have e : (Builtin.Str.strSliceIndices lo hi 1 (⟨l.toArray⟩ : Str).length).filterMap ((⟨l.toArray⟩ : Str).cps[·]?) = sl l lo hi := by
    rw [strIdx, ← pick_plain]
    unfold pick
    simp [Str.length]
  split
  · rename_i hc
    have hlen : (sl l lo hi).length = l.length := by
      rw [← e]
      simp only [Option.map_none, Option.getD_none, Bool.and_eq_true, beq_iff_eq] at hc
      have h2 := hc.2
      refine Nat.le_antisymm (Nat.le_trans (List.length_filterMap_le _ _) (by rw [h2]; simp [Str.length])) ?_
      rw [e]
      -- every place is met
      have h3 : (Builtin.Str.strSliceIndices lo hi 1 (⟨l.toArray⟩ : Str).length).length = (hi.elim l.length (clipAt l.length) - lo.elim 0 (clipAt l.length)) := by
        rw [strIdx, sliceBounds_plain]
        have := sliceRange_one (lo.elim 0 (clipAt l.length)) (hi.elim l.length (clipAt l.length))
        show (sliceRange ((lo.elim 0 (clipAt l.length) : Nat) : Int) ((hi.elim l.length (clipAt l.length) : Nat) : Int) 1).length = _
        rw [this]; simp
      rw [h3] at h2
      unfold sl
      rw [List.length_take, List.length_drop]
      have : (⟨l.toArray⟩ : Str).length = l.length := by simp [Str.length]
      have hcl : hi.elim l.length (clipAt l.length) ≤ l.length := by
        cases hi with
        | none => exact Nat.le_refl _
        | some i =>
          have := clipAt_cast l.length i
          show clipAt l.length i ≤ l.length
          (clear h3 e pu eu h hs ku pl el kl t hR a s z zs slice value h2 hc hn lo; (first | lia | omega))
      (clear h3 hc e hs pu eu ku pl el kl t hR a s z zs slice value h hn; (first | lia | omega))
    rw [sl_whole hlen] at h
    exact PVal.same hR (.str _ t) h
  · refine ⟨?_, ?_⟩
    · show (List.filterMap _ _).toArray.size ≤ sizeLine
      rw [List.size_toArray]
      have := sl_length_le l lo hi
      rw [← e] at this
      exact size_ok (Nat.le_trans this hn)
    · have e2 := e
      simp only [Option.map_none, Option.getD_none] at e2 ⊢
      rw [e2]
      exact PVal.toks hR (.str _ _) h
theorem Slc.bytes {l : List Nat} {lo hi : Option Int} (hn : l.length ≤ 16777216) (h : Q (.txt true (sl l lo hi)) σ) : Slc C (.txt true l) lo hi none Q X σ := by
  intro value slice zs z s x a lv uv wv hR rx hs pl pu pw
  have rxq := rx.e; clear rx; obtain ⟨t, rfl, hl⟩ := rxq
  cases pw
  refine tail_of (PySem.W.typeIs_bytes _ _ _) PySem.W.FB.slot_bytes_getitem.lookup rfl ?_
  have e : PySem.W.KBy.picked (l.map UInt8.ofNat).toArray lo hi = ((sl l lo hi).map UInt8.ofNat).toArray := by
    rw [PySem.W.KBc.picked_eq]
    unfold sl
    simp [List.map_take, List.map_drop]
  refine getItem_meets (PySem.W.typeIs_bytes _ _ _) (by decide) PySem.W.FB.slot_bytes_getitem PySem.W.FB.entry_bytes_getitem (PySem.W.FB.args_bytes_getitem_2 _ _) (PySem.W.KBc.meets_slice2 _ t a pl pu) ⟨hs, ?_, ?_⟩
  · rw [e, List.size_toArray, List.length_map]
    exact size_ok (Nat.le_trans (sl_length_le l lo hi) hn)
  · intro t' k
    rw [e]
    refine PVal.toks hR (.bytes _ _ fun c hc => hl c ?_) h
    unfold sl at hc
    exact List.mem_of_mem_drop (List.mem_of_mem_take hc)
theorem Slc.txt {o : Bool} {l : List Nat} {lo hi : Option Int} (hn : l.length ≤ 16777216) (h : Q (.txt o (sl l lo hi)) σ) : Slc C (.txt o l) lo hi none Q X σ := by
  cases o
  · exact Slc.str hn h
  · exact Slc.bytes hn h
end
end PL

end
section
open PySem PySem.Calls PyProof.Rows
set_option Elab.async false
set_option linter.unusedVariables false
set_option linter.unusedSimpArgs false
namespace PL

/-! calls -/
section
variable {C : Cx} {X : XP} {σ : St} {Q : V → St → Prop}

inductive Kept (g : Gd) : Value → Prop
  | bi (id : String) : Kept g (.builtin id)
  | ty (n : String) : Kept g (.type n)
  | fn {a : Addr} {o : Obj} {fd : FuncData} (h : g.base.get? a = some o) (hd : o.data = .func fd) : Kept g (.ref a)

noncomputable def CallV (C : Cx) (f : Value) (vs : List V) (Q : V → St → Prop) (X : XP) (σ : St) : Prop := ∀ z₀ xs, RepL z₀ vs xs → TT C z₀ (call f xs []) (PVal Q) X σ

theorem evalArgs_of {M : Model} {A : Around} {E : Value → Shared → Prop} {s : Shared} {f : Value} {args : List (Bool × Sem Value)} {Q : Args → Shared → Prop} (hp : args.any (·.1) = false)
    (h : wpAny M A (spliced args) (fun vs s' => Q ⟨vs, []⟩ s') E s) : wpAny M A (evalArgs f true args []) Q E s := by
  have e : evalArgs f true args [] = (do
      let pos ← spliced args
      holding pos (do
        let kw := (([] : List (Option Str × Sem Value)).filterMap (·.1)).zip (← evalAll [])
        return ⟨← pure pos, kw⟩)) := by
    unfold evalArgs
    cases args with
    | nil => simp
    | cons a r =>
      obtain ⟨b, x⟩ := a
      cases b with
      | true => simp at hp
      | false => simp
  rw [e]
  refine wpAny_bind (wpAny_mono h (fun vs s' h' => ?_) fun _ _ x => x)
  exact wpAny_holding (wpAny_bind (wpAny_pure (wpAny_bind (wpAny_pure (wpAny_pure h')))))

theorem TT.callWith {z₀ : Z} {pos : Pos} {f : Value} {first : List Value} {args : List (Bool × Sem Value)} {P : Z → Value → St → Prop} (kf : Kept C.g f) (hp : args.any (·.1) = false)
    (h : TT C z₀ (spliced args) (fun z xs σ1 => TT C z (call f (first ++ xs) []) P X σ1) X σ) : TT C z₀ (callWith pos f first args []) P X σ := by
  intro zs z s hz hR
  have go : wpAny C.M C.A (spliced args) (fun xs s' => wpAny C.M C.A (call f (first ++ xs) []) (Post C zs z P) (PX C zs z X) s' ∧ ∀ b o, C.g.base.get? b = some o → s'.heap.get? b = some o) (PX C zs z X) s := by
    refine wpAny_mono (h zs z s hz hR) ?_ fun _ _ x => x
    rintro xs s1 ⟨z1, σ1, l1, R1, k⟩
    refine ⟨wpAny_mono (k zs z1 s1 (Z.le_refl _) R1) ?_ fun _ _ x => PX.le l1 x, R1.rh.base⟩
    rintro a s2 ⟨z2, σ2, l2, R2, q⟩
    exact ⟨z2, σ2, Z.le_trans l1 l2, R2, q⟩
  cases kf with
  | bi id => exact callWith_builtin hp (evalArgs_of hp (wpAny_mono go (fun _ _ x => x.1) fun _ _ x => x))
  | ty n => exact PyProof.Rows.callWith_type hp (evalArgs_of hp (wpAny_mono go (fun _ _ x => x.1) fun _ _ x => x))
  | fn hb hd => exact callWith_function (evalArgs_of hp (wpAny_mono go (fun _ _ x => ⟨⟨x.2 _ _ hb, hd⟩, x.1⟩) fun _ _ x => x))

theorem TE.call {func : Expr} {args : List Expr} {pos : Pos} (h : TE C func (fun fv σ1 => ∃ f, fv = .con f ∧ Kept C.g f ∧ TArgs C args (fun vs σ2 => CallV C f vs Q X σ2) X σ1) X σ)
    (hp : (backTo pos (starEach args C.env)).any (·.1) = false := by rfl)
    (he : eval (.Call func args [] pos) C.env = (do callWith pos (← eval func C.env) [] (backTo pos (starEach args C.env)) []) := by rfl) : TE C (.Call func args [] pos) Q X σ := by
  intro z₀
  rw [he]
  refine TT.bind (TT.mono (h z₀) ?_)
  rintro z fx σ1 l1 ⟨_, rf, f, rfl, kf, h1⟩
  cases rf
  refine TT.callWith kf hp (TT.mono (h1 pos z) ?_)
  rintro z2 xs σ2 l2 ⟨vs, rs, h2⟩
  exact h2 z2 xs rs

/-- a built-in method of a value -/
noncomputable def Meth (C : Cx) (σ : St) (ov : V) (name : Str) (id : String) : Prop :=
  ∀ zs z s x pl (Q' : Value × List Value → Shared → Prop) E, R C zs σ z s → Rep z ov x → Q' (.builtin id, [x]) s → wpAny C.M C.A (getMethod x name pl) Q' E s
theorem TE.meth {o : Expr} {name : Str} {id : String} {apos pos : Pos} {args : List Expr} (h : TE C o (fun ov σ1 => Meth C σ1 ov name id ∧ TArgs C args (fun vs σ2 => CallV C (.builtin id) (ov :: vs) Q X σ2) X σ1) X σ)
    (hp : (backTo pos (starEach args C.env)).any (·.1) = false := by rfl) (hb : attributeBase o name C.env (eval o C.env) = eval o C.env := by rfl)
    (hf : methodCallForm (args.length + 0) (backTo pos (starEach args C.env)) [] = true := by rfl) (hl : (apos.endLine == pos.line) = true := by rfl) : TE C (.Call (.Attribute o name apos) args [] pos) Q X σ := by
  intro z₀
  have e : eval (.Call (.Attribute o name apos) args [] pos) C.env = (do
    let ov ← eval o C.env
    standAt apos.atName
    let (f, first) ← holding [ov] (getMethod ov name (do return (← importBound o C.env).getD true))
    callWith pos f first (backTo pos (starEach args C.env)) []) := by
    have e0 : eval (.Call (.Attribute o name apos) args [] pos) C.env = (do
        let ov ← attributeBase o name C.env (eval o C.env)
        standAt apos.atName
        methodCall o name apos pos C.env ov (args.length + 0) (backTo pos (starEach args C.env)) []) := rfl
    rw [e0, hb]
    unfold methodCall methodCallPos calleeOf
    rw [hf]
    simp only [hl, if_true, Bool.not_true, Bool.false_or]
    rfl
  rw [e]
  refine TT.bind (TT.mono (h z₀) ?_)
  rintro z x σ1 l1 ⟨ov, rv, hm, h1⟩
  refine TT.at_ ?_
  intro zs z' s hz' hR
  refine wpAny_bind (wpAny_holding (hm zs z' s x _ _ _ hR (rv.mono hz') ?_))
  refine TT.callWith (C := C) (z₀ := z') (σ := σ1) (X := X) (.bi id) hp (TT.mono (h1 pos z') ?_) zs z' s (Z.le_refl _) hR
  rintro z2 xs σ2 l2 ⟨vs, rs, h2⟩
  exact h2 z2 _ (.cons ((rv.mono hz').mono l2) rs)
theorem CallV.toks {f : Value} {vs : List V} (h : ∀ z₀ zs z s xs, Z.le z₀ z → R C zs σ z s → RepL z vs xs → wpAny C.M C.A (call f xs []) (Post C zs z (PVal Q)) (PX C zs z X) s) : CallV C f vs Q X σ :=
  fun z₀ xs r zs z s hz hR => h z₀ zs z s xs hz hR (r.mono hz)
end

/-! facts of the methods of bytes -/
namespace BF
open PySem.W.FB
theorem slot_rfind : Slot "bytes" "rfind" "bytes.rfind" :=
  .of (owner := "bytes") (n := "rfind") (by rw [typeLookup_type, builtinLookup_eq_fast]; kernel_rfl) (by decide +kernel) (by decide +kernel) (by decide +kernel)
    (by first | exact .inl (by decide +kernel) | exact .inr (by decide +kernel)) (by rw [isSubtype_type]; kernel_rfl)
theorem type_rfind : typeOf (.builtin "bytes.rfind") = pure (.type "method_descriptor") := by show builtinType _ = _; rw [builtinType_eq_fast]; kernel_rfl
theorem entry_rfind : entryFor table "bytes.rfind" = some Builtin.«bytes.rfind» := entryFor_of_tree (by kernel_rfl)
theorem args_rfind (a b : Value) : argsOk "bytes.rfind" ⟨[a, b], []⟩ := by
  unfold argsOk; rw [signature?_of (id := "bytes.rfind") (n := ['d', 'n', 'i', 'f', 'r']) (o := ['s', 'e', 't', 'y', 'b']) (by kernel_rfl) owner_bytes]; kernel_rfl
theorem slot_rstrip : Slot "bytes" "rstrip" "bytes.rstrip" :=
  .of (owner := "bytes") (n := "rstrip") (by rw [typeLookup_type, builtinLookup_eq_fast]; kernel_rfl) (by decide +kernel) (by decide +kernel) (by decide +kernel)
    (by first | exact .inl (by decide +kernel) | exact .inr (by decide +kernel)) (by rw [isSubtype_type]; kernel_rfl)
theorem type_rstrip : typeOf (.builtin "bytes.rstrip") = pure (.type "method_descriptor") := by show builtinType _ = _; rw [builtinType_eq_fast]; kernel_rfl
theorem entry_rstrip : entryFor table "bytes.rstrip" = some Builtin.«bytes.rstrip» := entryFor_of_tree (by kernel_rfl)
theorem args_rstrip (a b : Value) : argsOk "bytes.rstrip" ⟨[a, b], []⟩ := by
  unfold argsOk; rw [signature?_of (id := "bytes.rstrip") (n := ['p', 'i', 'r', 't', 's', 'r']) (o := ['s', 'e', 't', 'y', 'b']) (by kernel_rfl) owner_bytes]; kernel_rfl
theorem slot_split : Slot "bytes" "split" "bytes.split" :=
  .of (owner := "bytes") (n := "split") (by rw [typeLookup_type, builtinLookup_eq_fast]; kernel_rfl) (by decide +kernel) (by decide +kernel) (by decide +kernel)
    (by first | exact .inl (by decide +kernel) | exact .inr (by decide +kernel)) (by rw [isSubtype_type]; kernel_rfl)
theorem type_split : typeOf (.builtin "bytes.split") = pure (.type "method_descriptor") := by show builtinType _ = _; rw [builtinType_eq_fast]; kernel_rfl
theorem entry_split : entryFor table "bytes.split" = some Builtin.«bytes.split» := entryFor_of_tree (by kernel_rfl)
theorem args_split (a b : Value) : argsOk "bytes.split" ⟨[a, b], []⟩ := by
  unfold argsOk; rw [signature?_of (id := "bytes.split") (n := ['t', 'i', 'l', 'p', 's']) (o := ['s', 'e', 't', 'y', 'b']) (by kernel_rfl) owner_bytes]; kernel_rfl
theorem slot_join : Slot "bytes" "join" "bytes.join" :=
  .of (owner := "bytes") (n := "join") (by rw [typeLookup_type, builtinLookup_eq_fast]; kernel_rfl) (by decide +kernel) (by decide +kernel) (by decide +kernel)
    (by first | exact .inl (by decide +kernel) | exact .inr (by decide +kernel)) (by rw [isSubtype_type]; kernel_rfl)
theorem type_join : typeOf (.builtin "bytes.join") = pure (.type "method_descriptor") := by show builtinType _ = _; rw [builtinType_eq_fast]; kernel_rfl
theorem entry_join : entryFor table "bytes.join" = some Builtin.«bytes.join» := entryFor_of_tree (by kernel_rfl)
theorem args_join (a b : Value) : argsOk "bytes.join" ⟨[a, b], []⟩ := by
  unfold argsOk; rw [signature?_of (id := "bytes.join") (n := ['n', 'i', 'o', 'j']) (o := ['s', 'e', 't', 'y', 'b']) (by kernel_rfl) owner_bytes]; kernel_rfl
end BF

section
variable {C : Cx} {σ : St}
theorem Meth.str {l : List Nat} {name : Str} {id : String} (slot : Slot "str" name id) (ty : typeOf (.builtin id) = pure (.type "method_descriptor")) : Meth C σ (.txt false l) name id := by
  intro zs z s x pl Q' E hR r h
  have rq := r.e; clear r; obtain ⟨t, rfl⟩ := rq
  with_reducible exact GM.of (.str _ t) (typeIs_str _ _ _) slot ty GM.noRef h
theorem Meth.bytes {l : List Nat} {name : Str} {id : String} (slot : Slot "bytes" name id) (ty : typeOf (.builtin id) = pure (.type "method_descriptor")) : Meth C σ (.txt true l) name id := by
  intro zs z s x pl Q' E hR r h
  have rq := r.e; clear r; obtain ⟨t, rfl, hl⟩ := rq
  with_reducible exact PySem.W.KBd.method_of (.bytes _ t) (PySem.W.typeIs_bytes _ _ _) slot ty PySem.W.KBd.noRef h
theorem Meth.list {v : V} {vs : List V} (k : IsL σ v vs) {name : Str} {id : String} (slot : Slot "list" name id) (ty : typeOf (.builtin id) = pure (.type "method_descriptor")) : Meth C σ v name id := by
  intro zs z s x pl Q' E hR r h
  obtain ⟨a, items, n, rfl, p, q⟩ := k.obj r (Z.le_refl _) hR
  exact getMethod_builtin (T := "list") ⟨_, p, rfl⟩ PySem.F.plainAttrs_list slot ty (fun b e => by cases e; exact ⟨_, p, rfl⟩) h
end
end PL

end
section
open PySem PySem.Calls PyProof.Rows
set_option Elab.async false
set_option linter.unusedVariables false
set_option linter.unusedSimpArgs false
namespace PL

/-! bytes: what the model's searches give on a single sign -/
section
open Builtin
theorem extract_one {b : List UInt8} {i : Nat} {c : UInt8} : (b.toArray.extract i (i + (#[c] : Array UInt8).size) == #[c]) = true ↔ b[i]? = some c := by
  have e : b.toArray.extract i (i + (#[c] : Array UInt8).size) = ((b.drop i).take 1).toArray := by
    simp [List.extract_toArray, List.extract_eq_take_drop]
  rw [e]
  constructor
  · intro h
    have h2 := eq_of_beq h
    have h3 : (b.drop i).take 1 = [c] := by simpa using congrArg Array.toList h2
    cases hd : b.drop i with
    | nil => rw [hd] at h3; simp at h3
    | cons x r =>
      rw [hd] at h3
      simp at h3
      have : b[i]? = (b.drop i)[0]? := by simp
      rw [this, hd]; simp [h3]
  · intro h
    have : (b.drop i).take 1 = [c] := by
      have h2 : (b.drop i)[0]? = some c := by simpa using h
      cases hd : b.drop i with
      | nil => rw [hd] at h2; simp at h2
      | cons x r => rw [hd] at h2; simp at h2; simp [h2]
    rw [this]; simp
theorem find_rev {P : Nat → Bool} (n k : Nat) (hk : k < n) (h1 : P k = true) (h2 : ∀ j, k < j → j < n → P j = false) : (List.range n).reverse.find? P = some k := by
  induction n with
  | zero => (clear h2 h1; (first | lia | omega))
  | succ n ih =>
    rw [List.range_succ, List.reverse_append, List.reverse_singleton, List.singleton_append, List.find?_cons]
    by_cases e : k = n
    · subst e; rw [h1]
    · rw [h2 n (by (clear h2 ih h1 P; (first | lia | omega))) (by (clear e h2 hk ih h1 P k; (first | lia | omega)))]
      exact ih (by (clear h2 ih h1 P; (first | lia | omega))) fun j a b => h2 j a (by (clear a e h2 hk ih h1 P k; (first | lia | omega)))
theorem find_rev_none {P : Nat → Bool} (n : Nat) (h : ∀ j, j < n → P j = false) : (List.range n).reverse.find? P = none := by
  rw [List.find?_eq_none]
  intro x hx
  simp at hx
  simp [h x hx]
theorem bytes_rfind? (l : List Nat) (c : Nat) (hl : ∀ x ∈ l, x < 256) (hc : c < 256) :
    Bytes.rfind? (l.map UInt8.ofNat).toArray #[UInt8.ofNat c] 0 l.length = (match cut c l with | 0 => none | k + 1 => some k) := by
  have key : ∀ i, (((l.map UInt8.ofNat).toArray.extract i (i + (#[UInt8.ofNat c] : Array UInt8).size) == #[UInt8.ofNat c]) = true) ↔ l[i]? = some c := by
    intro i
    rw [extract_one, List.getElem?_map, Option.map_eq_some_iff]
    constructor
    · rintro ⟨x, hx, e⟩
      rw [hx, ofNat_inj (hl x (List.mem_of_getElem? hx)) hc e]
    · intro h; exact ⟨c, h, rfl⟩
  unfold Bytes.rfind?
  have er : (List.range (l.length + 1 - (0 + (#[UInt8.ofNat c] : Array UInt8).size))).map (· + 0) = List.range l.length := by simp
  rw [er]
  rcases cut_spec c l with ⟨h0, h⟩ | ⟨k, h0, h1, h2⟩
  · rw [h0]
    exact find_rev_none _ fun j hj => Bool.eq_false_iff.mpr fun e => h j ((key j).mp e)
  · rw [h0]
    refine find_rev _ k (List.getElem?_eq_some_iff.mp h1).1 ((key k).mpr h1) fun j a b => Bool.eq_false_iff.mpr fun e => h2 j a ((key j).mp e)

theorem gives_bytes_rfind {l : List Nat} {c : Nat} {t u : Tok} (hl : ∀ x ∈ l, x < 256) (hc : c < 256) :
    Gives («bytes.rfind» ⟨[.bytes (l.map UInt8.ofNat).toArray t, .bytes #[UInt8.ofNat c] u], []⟩) (.int ((cut c l : Int) - 1)) := by
  refine .of_wp fun M A E s Q hq => ?_
  have e1 : Bytes.searchArgs .bytes "rfind" ⟨[.bytes (l.map UInt8.ofNat).toArray t, .bytes #[UInt8.ofNat c] u], []⟩ =
      pure ((l.map UInt8.ofNat).toArray, #[UInt8.ofNat c], if (l.length : Int) < 1 then none else some (0, l.length)) := by
    have hb : Bytes.buffer? "bytes.rfind" (.bytes #[UInt8.ofNat c] u) = pure (some #[UInt8.ofNat c]) := PySem.W.KBy.buffer_eq
    show (Bytes.buffer? "bytes.rfind" (.bytes #[UInt8.ofNat c] u) >>= fun r => _) = _
    rw [hb]
    show (pure ((l.map UInt8.ofNat).toArray, #[UInt8.ofNat c], _) : Sem _) = _
    have hn : ¬ ((l.length : Int) < 0) := by (clear hb hq Q s E A M hc hl u t c; (first | lia | omega))
    simp [Bytes.window, hn, Int.min_self]
  show wpAny M A (Bytes.searchArgs .bytes "rfind" _ >>= fun r => _) _ E s
  refine wpAny_bind (wpAny_of_eq e1 ?_)
  have e2 : ((if (l.length : Int) < 1 then none else some (0, l.length) : Option (Nat × Nat)).bind fun (p : Nat × Nat) => if true = true then Bytes.rfind? (l.map UInt8.ofNat).toArray #[UInt8.ofNat c] p.1 p.2 else Bytes.find? (l.map UInt8.ofNat).toArray #[UInt8.ofNat c] p.1 p.2) =
      (match cut c l with | 0 => none | k + 1 => some k) := by
    by_cases h : (l.length : Int) < 1
    · rw [if_pos h]
      have : l = [] := List.length_eq_zero_iff.mp (by (clear e1 hq Q s E A M hc hl u t c; (first | lia | omega)))
      subst this; rfl
    · rw [if_neg h]; exact bytes_rfind? l c hl hc
  show wpAny M A (match ((if (l.length : Int) < 1 then none else some (0, l.length) : Option (Nat × Nat)).bind fun (p : Nat × Nat) => if true = true then Bytes.rfind? (l.map UInt8.ofNat).toArray #[UInt8.ofNat c] p.1 p.2 else Bytes.find? (l.map UInt8.ofNat).toArray #[UInt8.ofNat c] p.1 p.2) with
    | some i => retInt i
    | none => (do rule "bytes.rfind.not-found"; retInt (-1))) _ E s
  rw [e2]
  cases hk : cut c l with
  | zero =>
    rw [hk] at hq
    have : ((0 : Nat) : Int) - 1 = -1 := rfl
    rw [this] at hq
    exact wpAny_bind (wpAny_rule (wpAny_bind (wpAny_mkInt (wpAny_pure ⟨_, rfl, hq⟩))))
  | succ k =>
    rw [hk] at hq
    have : ((k + 1 : Nat) : Int) - 1 = (k : Int) := by (clear hk hq e2 e1 Q s E A M hc hl u t c l; (first | lia | omega))
    rw [this] at hq
    exact wpAny_bind (wpAny_mkInt (wpAny_pure ⟨_, rfl, hq⟩))

theorem bytesLike_eq {id : String} {b : Array UInt8} {t : Tok} : Bytes.bytesLike id (.bytes b t) = pure b := by
  unfold Bytes.bytesLike
  rw [PySem.W.KBy.buffer_eq]
  rfl
theorem dropWhile_map {l : List Nat} {c : Nat} (hl : ∀ x ∈ l, x < 256) (hc : c < 256) : (l.map UInt8.ofNat).dropWhile (#[UInt8.ofNat c] : Array UInt8).contains = (l.dropWhile (· == c)).map UInt8.ofNat := by
  induction l with
  | nil => rfl
  | cons x r ih =>
    have e : (#[UInt8.ofNat c] : Array UInt8).contains (UInt8.ofNat x) = (x == c) := by
      rw [Bool.eq_iff_iff]
      simp only [Array.contains_eq_mem, List.mem_toArray, List.mem_singleton, decide_eq_true_eq, beq_iff_eq]
      constructor
      · intro h; exact ofNat_inj (hl x List.mem_cons_self) hc h
      · intro h; rw [h]
    rw [List.map_cons, List.dropWhile_cons, List.dropWhile_cons, e]
    split
    · exact ih fun y hy => hl y (List.mem_cons_of_mem _ hy)
    · rfl
theorem mem_rstripS {c x : Nat} {l : List Nat} (h : x ∈ rstripS c l) : x ∈ l := by
  unfold rstripS at h
  rw [List.mem_reverse] at h
  exact List.mem_reverse.mp ((List.dropWhile_sublist _).subset h)
theorem rstripS_length (c : Nat) (l : List Nat) : (rstripS c l).length ≤ l.length := by
  unfold rstripS
  rw [List.length_reverse]
  have := (List.dropWhile_sublist (p := (· == c)) (l := l.reverse)).length_le
  simpa using this
theorem rstripS_same {c : Nat} {l : List Nat} (h : (rstripS c l).length = l.length) : rstripS c l = l := by
  unfold rstripS at h ⊢
  rw [List.length_reverse] at h
  have e : l.reverse.dropWhile (· == c) = l.reverse := (List.dropWhile_sublist (p := (· == c)) (l := l.reverse)).eq_of_length (by rw [h, List.length_reverse])
  rw [e, List.reverse_reverse]

section
variable {prog : Program} {w : World} {A : Around} {E : Value → Shared → Prop} {s : Shared} {Q : Value → Shared → Prop} {l : List Nat} {c : Nat} {t u : Tok}
theorem call_bytes_rfind (hl : ∀ x ∈ l, x < 256) (hc : c < 256) (h : Q (.int ((cut c l : Int) - 1) s.toks) { s with toks := s.toks + 1 }) :
    wpAny (model prog w) A (call (.builtin "bytes.rfind") [.bytes (l.map UInt8.ofNat).toArray t, .bytes #[UInt8.ofNat c] u]) Q E s :=
  call_gives BF.slot_rfind (PySem.W.typeIs_bytes _ _ _) BF.entry_rfind (BF.args_rfind _ _) (gives_bytes_rfind hl hc) h
theorem call_bytes_rstrip (hl : ∀ x ∈ l, x < 256) (hc : c < 256) (hn : l.length ≤ 16777216) (h : ∀ t' k, Q (.bytes ((rstripS c l).map UInt8.ofNat).toArray t') { s with toks := k }) :
    wpAny (model prog w) A (call (.builtin "bytes.rstrip") [.bytes (l.map UInt8.ofNat).toArray t, .bytes #[UInt8.ofNat c] u]) Q E s := by
  have g : Gives («bytes.rstrip» ⟨[.bytes (l.map UInt8.ofNat).toArray t, .bytes #[UInt8.ofNat c] u], []⟩)
      (if (rstripS c l).length = l.length then .val (.bytes (l.map UInt8.ofNat).toArray t) else .bytes ((rstripS c l).map UInt8.ofNat).toArray) := by
    refine .of_wp fun M A E s Q hq => ?_
    show wpAny M A (Bytes.bytesLike "bytes.rstrip" (.bytes #[UInt8.ofNat c] u) >>= fun set => _) _ E s
    refine wpAny_bind (wpAny_of_eq bytesLike_eq (wpAny_bind (wpAny_pure ?_)))
    refine wpAny_bind (wpAny_of_eq (a := (l.map UInt8.ofNat).toArray) rfl ?_)
    have ek : ((l.map UInt8.ofNat).toArray.toList.reverse.dropWhile (#[UInt8.ofNat c] : Array UInt8).contains).reverse = (rstripS c l).map UInt8.ofNat := by
      rw [List.toList_toArray, ← List.map_reverse, dropWhile_map (fun x hx => hl x (List.mem_reverse.mp hx)) hc, ← List.map_reverse]
      rfl
    simp only [Bool.false_eq_true, if_false, if_true, List.toList_toArray] at ek ⊢
    rw [ek]
    by_cases e : (rstripS c l).length = l.length
    · rw [if_pos e] at hq
      rw [if_pos (by simp [e])]
      exact wpAny_bind (wpAny_rule (wpAny_bind (wpAny_bind (wpAny_typeOf (PySem.W.typeIs_bytes s _ t) (wpAny_pure (wpAny_pure ⟨_, rfl, hq⟩))))))
    · rw [if_neg e] at hq
      rw [if_neg (by simp [e])]
      exact wpAny_bind (wpAny_mkBytes (wpAny_pure ⟨_, rfl, hq.2⟩) hq.1)
  refine call_gives BF.slot_rstrip (PySem.W.typeIs_bytes _ _ _) BF.entry_rstrip (BF.args_rstrip _ _) g ?_
  by_cases e : (rstripS c l).length = l.length
  · rw [if_pos e]
    have := h t s.toks
    rw [rstripS_same e] at this
    exact this
  · rw [if_neg e]
    refine ⟨?_, h _ _⟩
    rw [List.size_toArray, List.length_map]
    exact size_ok (Nat.le_trans (rstripS_length c l) hn)
end
end
end PL

end
section
open PySem PySem.Calls PyProof.Rows
set_option Elab.async false
set_option linter.unusedVariables false
set_option linter.unusedSimpArgs false
namespace PL
section
open Builtin

/-- the places of a sign -/
noncomputable def occS (c : UInt8) : List UInt8 → List Nat
  | [] => []
  | x :: r => if x = c then 0 :: (occS c r).map (· + 1) else (occS c r).map (· + 1)
noncomputable def betw (b : List UInt8) : Nat → List Nat → List (List UInt8)
  | last, [] => [b.drop last]
  | last, p :: r => ((b.drop last).take (p - last)) :: betw b (p + 1) r
noncomputable def splitB (c : UInt8) : List UInt8 → List (List UInt8)
  | [] => [[]]
  | x :: r => if x = c then [] :: splitB c r else match splitB c r with
    | [] => [[x]]
    | p :: ps => (x :: p) :: ps
theorem betw_shift (x : UInt8) (r : List UInt8) : ∀ (ps : List Nat) (k : Nat), betw (x :: r) (k + 1) (ps.map (· + 1)) = betw r k ps
  | [], k => rfl
  | p :: ps, k => by
    simp only [List.map_cons, betw, List.drop_succ_cons, Nat.add_sub_add_right]
    rw [betw_shift x r ps (p + 1)]
theorem betw_head (x : UInt8) (r : List UInt8) : ∀ (ps : List Nat), betw (x :: r) 0 (ps.map (· + 1)) = match betw r 0 ps with | [] => [[x]] | p :: q => (x :: p) :: q
  | [] => by simp [betw]
  | p :: ps => by
    simp only [List.map_cons, betw, List.drop_zero, Nat.sub_zero, List.take_succ_cons]
    rw [betw_shift x r ps (p + 1)]
theorem betw_split (c : UInt8) : ∀ b : List UInt8, betw b 0 (occS c b) = splitB c b
  | [] => rfl
  | x :: r => by
    have ih := betw_split c r
    unfold occS splitB
    by_cases h : x = c
    · rw [if_pos h, if_pos h]
      simp only [betw, List.drop_zero, Nat.sub_self, List.take_zero]
      rw [betw_shift, ih]
    · rw [if_neg h, if_neg h, betw_head, ih]
theorem occS_eq (c : UInt8) : ∀ b : List UInt8, occS c b = (List.range b.length).filter fun i => b[i]? == some c
  | [] => rfl
  | x :: r => by
    have ih := occS_eq c r
    unfold occS
    rw [List.length_cons, List.range_succ_eq_map, List.filter_cons, ih, List.filter_map]
    have e : ((fun i => (x :: r)[i]? == some c) ∘ Nat.succ) = fun i => r[i]? == some c := by funext i; simp
    have e2 : (fun i => i + 1) = Nat.succ := rfl
    rw [e, e2]
    by_cases h : x = c
    · rw [if_pos h, if_pos (by simp [h])]
    · rw [if_neg h, if_neg (by simp [h])]
theorem occ_bytes (b : List UInt8) (c : UInt8) : Bytes.occurrences b.toArray #[c] 0 b.length = occS c b := by
  unfold Bytes.occurrences
  have er : (List.range (b.length + 1 - (0 + (#[c] : Array UInt8).size))).map (· + 0) = List.range b.length := by simp
  simp only [er]
  have key : ∀ n, n ≤ b.length → ∃ f, (List.range n).foldl (fun (acc : List Nat × Nat) i => if (i ≥ acc.2 && b.toArray.extract i (i + (#[c] : Array UInt8).size) == #[c]) = true then (i :: acc.1, i + (#[c] : Array UInt8).size) else acc) ([], 0) =
      (((List.range n).filter fun i => b[i]? == some c).reverse, f) ∧ f ≤ n := by
    intro n
    induction n with
    | zero => intro _; exact ⟨0, rfl, Nat.le_refl _⟩
    | succ n ih =>
      intro hn
      obtain ⟨f, e, hf⟩ := ih (by (clear ih er c; (first | lia | omega)))
      rw [List.range_succ, List.foldl_append, e, List.filter_append]
      simp only [List.foldl_cons, List.foldl_nil]
      have eb : (decide (n ≥ f) && b.toArray.extract n (n + (#[c] : Array UInt8).size) == #[c]) = (b[n]? == some c) := by
        rw [decide_eq_true hf, Bool.true_and, Bool.eq_iff_iff, extract_one, beq_iff_eq]
      rw [eb]
      cases hb : (b[n]? == some c) with
      | true =>
        refine ⟨n + 1, ?_, Nat.le_refl _⟩
        simp [hb]
      | false =>
        refine ⟨f, ?_, by (clear hb eb e hn ih er c b; (first | lia | omega))⟩
        simp [hb]
  obtain ⟨f, e, _⟩ := key b.length (Nat.le_refl _)
  rw [e, List.reverse_reverse, occS_eq]
theorem between_eq (b : List UInt8) (ps : List Nat) : Bytes.between b.toArray 1 ps = (betw b 0 ps).map List.toArray := by
  unfold Bytes.between
  have key : ∀ (ps : List Nat) (parts : Array (Array UInt8)) (last : Nat),
      (let r := ps.foldl (fun (x : Array (Array UInt8) × Nat) p => (x.1.push (b.toArray.extract x.2 p), p + 1)) (parts, last); (r.1.push (b.toArray.extract r.2 b.toArray.size)).toList) = parts.toList ++ (betw b last ps).map List.toArray := by
    intro ps
    induction ps with
    | nil =>
      intro parts last
      simp [betw, List.extract_toArray, List.extract_eq_take_drop]
      exact List.take_of_length_le (by simp)
    | cons p ps ih =>
      intro parts last
      rw [List.foldl_cons]
      have := ih (parts.push (b.toArray.extract last p)) (p + 1)
      dsimp only at this ⊢
      rw [this]
      simp [betw, List.extract_toArray, List.extract_eq_take_drop]
  have := key ps #[] 0
  simpa using this
theorem splitB_map {c : Nat} (hc : c < 256) : ∀ {l : List Nat}, (∀ x ∈ l, x < 256) → splitB (UInt8.ofNat c) (l.map UInt8.ofNat) = (splitS c l).map (·.map UInt8.ofNat)
  | [], _ => rfl
  | x :: r, hl => by
    have ih := splitB_map hc (l := r) fun y hy => hl y (List.mem_cons_of_mem _ hy)
    rw [List.map_cons]
    unfold splitB splitS
    by_cases h : x = c
    · rw [if_pos h, if_pos (by rw [h]), ih]; rfl
    · rw [if_neg h, if_neg (fun e => h (ofNat_inj (hl x List.mem_cons_self) hc e)), ih]
      cases splitS c r <;> rfl
theorem splitS_mem {c : Nat} : ∀ {l : List Nat} {p : List Nat}, p ∈ splitS c l → ∀ x ∈ p, x ∈ l
  | [], p, hp, x, hx => by simp [splitS] at hp; subst hp; cases hx
  | y :: r, p, hp, x, hx => by
    unfold splitS at hp
    by_cases h : y = c
    · rw [if_pos h] at hp
      rcases List.mem_cons.mp hp with e | hp
      · subst e; cases hx
      · exact List.mem_cons_of_mem _ (splitS_mem hp x hx)
    · rw [if_neg h] at hp
      cases hs : splitS c r with
      | nil => exact absurd hs (splitS_ne c r)
      | cons q qs =>
        rw [hs] at hp
        rcases List.mem_cons.mp hp with e | hp
        · subst e
          rcases List.mem_cons.mp hx with e | hx
          · subst e; exact List.mem_cons_self
          · exact List.mem_cons_of_mem _ (splitS_mem (p := q) (by rw [hs]; exact List.mem_cons_self) x hx)
        · exact List.mem_cons_of_mem _ (splitS_mem (p := p) (by rw [hs]; exact List.mem_cons_of_mem _ hp) x hx)
theorem splitS_length (c : Nat) : ∀ l : List Nat, (splitS c l).length ≤ l.length + 1
  | [] => by simp [splitS]
  | x :: r => by
    have ih := splitS_length c r
    unfold splitS
    by_cases h : x = c
    · rw [if_pos h]; simp; (clear h x; (first | lia | omega))
    · rw [if_neg h]
      cases hs : splitS c r with
      | nil => simp
      | cons q qs => rw [hs] at ih; simp at ih ⊢; (clear hs q h x c; (first | lia | omega))
theorem splitS_part_length {c : Nat} : ∀ {l : List Nat} {p : List Nat}, p ∈ splitS c l → p.length ≤ l.length
  | [], p, hp => by simp [splitS] at hp; subst hp; simp
  | x :: r, p, hp => by
    unfold splitS at hp
    by_cases h : x = c
    · rw [if_pos h] at hp
      rcases List.mem_cons.mp hp with e | hp
      · subst e; simp
      · have := splitS_part_length hp; simp; (first | lia | omega)
    · rw [if_neg h] at hp
      cases hs : splitS c r with
      | nil => exact absurd hs (splitS_ne c r)
      | cons q qs =>
        rw [hs] at hp
        rcases List.mem_cons.mp hp with e | hp
        · subst e
          have := splitS_part_length (p := q) (l := r) (c := c) (by rw [hs]; exact List.mem_cons_self)
          simp; (clear hp hs qs h x c; (first | lia | omega))
        · have := splitS_part_length (p := p) (l := r) (c := c) (by rw [hs]; exact List.mem_cons_of_mem _ hp)
          simp; (first | lia | omega)

section
variable {prog : Program} {w : World} {A : Around} {E : Value → Shared → Prop} {s : Shared} {l : List Nat} {c : Nat} {t u : Tok}
theorem wpAny_mapM_mkBytes {M : Model} (ps : List (List Nat)) : ∀ (s : Shared) (Q : List Value → Shared → Prop), (∀ p ∈ ps, (∀ x ∈ p, x < 256) ∧ p.length ≤ 16777216) → (∀ xs k, (∀ z, RepL z (ps.map (.txt true)) xs) → Q xs { s with toks := k }) →
    wpAny M A ((ps.map fun p => (p.map UInt8.ofNat).toArray).mapM (Bytes.Kind.new .bytes)) Q E s := by
  induction ps with
  | nil => intro s Q _ h; rw [List.map_nil, List.mapM_nil]; exact wpAny_pure (h [] s.toks fun z => .nil)
  | cons p ps ih =>
    intro s Q hp h
    rw [List.map_cons, List.mapM_cons]
    obtain ⟨h1, h2⟩ := hp p List.mem_cons_self
    refine wpAny_bind ?_
    show wpAny M A (mkBytes _) _ E s
    refine wpAny_mkBytes ?_ (by rw [List.size_toArray, List.length_map]; exact size_ok h2)
    refine wpAny_bind (ih _ _ (fun q hq => hp q (List.mem_cons_of_mem _ hq)) fun xs k r => wpAny_pure (h _ k fun z => .cons (.bytes p _ h1) (r z)))
theorem call_bytes_split {Q : Value → Shared → Prop} (hl : ∀ x ∈ l, x < 256) (hc : c < 256) (hn : l.length ≤ 10000000)
    (h : ∀ xs k, (∀ z, RepL z ((splitS c l).map (.txt true)) xs) → Q (.ref s.heap.objs.size) { s with heap := s.heap.push (lstO xs 0), toks := k }) :
    wpAny (model prog w) A (call (.builtin "bytes.split") [.bytes (l.map UInt8.ofNat).toArray t, .bytes #[UInt8.ofNat c] u]) Q E s := by
  have g : Meets («bytes.split» ⟨[.bytes (l.map UInt8.ofNat).toArray t, .bytes #[UInt8.ofNat c] u], []⟩)
      (fun _ R s => ∀ xs k, (∀ z, RepL z ((splitS c l).map (.txt true)) xs) → R (.ok (.ret (.ref s.heap.objs.size))) { s with heap := s.heap.push (lstO xs 0), toks := k }) := by
    refine .of_wp fun prog w A R s hq => ?_
    have hocc := occ_bytes (l.map UInt8.ofNat) (UInt8.ofNat c)
    rw [List.length_map] at hocc
    have hb : splitB (UInt8.ofNat c) (l.map UInt8.ofNat) = (splitS c l).map (·.map UInt8.ofNat) := splitB_map hc hl
    have hbt := betw_split (UInt8.ofNat c) (l.map UInt8.ofNat)
    show wpAny _ _ (Bytes.bytesLike "bytes.split" (.bytes #[UInt8.ofNat c] u) >>= fun sep => _) _ _ s
    refine wpAny_bind (wpAny_of_eq bytesLike_eq ?_)
    show wpAny _ _ (if (Bytes.occurrences (l.map UInt8.ofNat).toArray #[UInt8.ofNat c] 0 (l.map UInt8.ofNat).toArray.size |>.take ((l.map UInt8.ofNat).toArray.size + 1)).isEmpty = true then _ else
      (Bytes.between (l.map UInt8.ofNat).toArray 1 (Bytes.occurrences (l.map UInt8.ofNat).toArray #[UInt8.ofNat c] 0 (l.map UInt8.ofNat).toArray.size |>.take ((l.map UInt8.ofNat).toArray.size + 1))).mapM (Bytes.Kind.new .bytes) >>= fun vs => newList vs >>= fun r => ret r) _ _ s
    rw [List.size_toArray, List.length_map, hocc]
    have htake : (occS (UInt8.ofNat c) (l.map UInt8.ofNat)).take (l.length + 1) = occS (UInt8.ofNat c) (l.map UInt8.ofNat) := by
      apply List.take_of_length_le
      rw [occS_eq]
      refine Nat.le_trans (List.length_filter_le _ _) ?_
      simp
    rw [htake, between_eq, hbt, hb]
    by_cases he : (occS (UInt8.ofNat c) (l.map UInt8.ofNat)).isEmpty = true
    · rw [if_pos he]
      have h0 : occS (UInt8.ofNat c) (l.map UInt8.ofNat) = [] := List.isEmpty_iff.mp he
      rw [h0] at hbt
      have h1 : (splitS c l).map (·.map UInt8.ofNat) = [l.map UInt8.ofNat] := by rw [← hb, ← hbt]; simp [betw]
      have h2 : splitS c l = [l] := by
        cases hs : splitS c l with
        | nil => exact absurd hs (splitS_ne c l)
        | cons p ps =>
          rw [hs] at h1
          simp only [List.map_cons, List.cons.injEq, List.map_eq_nil_iff] at h1
          obtain ⟨h1, rfl⟩ := h1
          rw [map_ofNat_inj (fun x hx => hl x (splitS_mem (by rw [hs]; exact List.mem_cons_self) x hx)) hl h1]
      refine wpAny_bind (wpAny_rule (wpAny_bind (wpAny_bind (wpAny_typeOf (PySem.W.typeIs_bytes s _ t) (wpAny_pure ?_)))))
      refine wpAny_bind (wpAny_newList (wpAny_pure ⟨_, rfl, ?_⟩) (by show 1 ≤ sizeLine; decide))
      exact hq [.bytes (l.map UInt8.ofNat).toArray t] s.toks fun z => by rw [h2]; exact .cons (.bytes l t hl) .nil
    · rw [if_neg he]
      have em : ((splitS c l).map (·.map UInt8.ofNat)).map List.toArray = (splitS c l).map fun p => (p.map UInt8.ofNat).toArray := by rw [List.map_map]; rfl
      rw [em]
      refine wpAny_bind (wpAny_mapM_mkBytes (splitS c l) s _ (fun p hp => ⟨fun x hx => hl x (splitS_mem hp x hx), Nat.le_trans (splitS_part_length hp) (by (clear hp p em he htake hbt hb hocc hq s R A w prog h hc hl Q; (first | lia | omega)))⟩) fun xs k r => ?_)
      refine wpAny_bind (wpAny_newList (wpAny_pure ⟨_, rfl, hq xs k r⟩) ?_)
      rw [(r fun _ => none).length, List.length_map]
      exact size_ok (Nat.le_trans (splitS_length c l) (by (clear r k xs em he htake hbt hb hocc hq s R A w prog h hc hl Q; (first | lia | omega))))
  exact call_meets BF.slot_split (PySem.W.typeIs_bytes _ _ _) BF.entry_split (BF.args_split _ _) g h
end
end
end PL

end
section
open PySem PySem.Calls PyProof.Rows
set_option Elab.async false
set_option linter.unusedVariables false
set_option linter.unusedSimpArgs false
namespace PL
section
open Builtin
noncomputable abbrev arr (p : List Nat) : Array UInt8 := (p.map UInt8.ofNat).toArray

theorem takeBufferQuiet_eq {id : String} {b : Array UInt8} {t : Tok} : Bytes.takeBufferQuiet? id (.bytes b t) 0 = pure (some (b, none)) := by
  have e : Bytes.takeBuffer? id (.bytes b t) 0 = pure (some (b, none)) := by
    unfold Bytes.takeBuffer?
    rw [PySem.W.KBy.special_eq PySem.W.KBy.look_buffer]
    rw [pure_bind]
    dsimp only
    rw [PySem.W.KBy.own_buffer]
    show ((Bytes.buffer? id (.bytes b t) (full := (0 : Int) == Bytes.fullReadOnly)) >>= fun r => pure (r.map (·, none))) = _
    have : ((0 : Int) == Bytes.fullReadOnly) = false := by decide
    rw [this, PySem.W.KBy.buffer_eq]
    rfl
  unfold Bytes.takeBufferQuiet?
  rw [e]
  rfl
theorem wpAny_joinLetGo {M : Model} {A : Around} {E : Value → Shared → Prop} {s : Shared} {keep : List Value} : ∀ {taken : List (Value × Option Value)} {Q : Unit → Shared → Prop}, (∀ p ∈ taken, p.2 = none) → Q () s → wpAny M A (Bytes.joinLetGo taken keep) Q E s
  | [], Q, _, h => wpAny_pure h
  | (x, w) :: rest, Q, hn, h => by
    have : w = none := hn (x, w) List.mem_cons_self
    subst this
    unfold Bytes.joinLetGo
    exact wpAny_bind (wpAny_letGo (wpAny_joinLetGo (fun p hp => hn p (List.mem_cons_of_mem _ hp)) h))
theorem joined_go (sep : List UInt8) : ∀ (ps : List (List UInt8)) (acc : List UInt8) (k : Nat), 0 < k →
    ((ps.map List.toArray).zipIdx k).foldl (fun (out : Array UInt8) (x : Array UInt8 × Nat) => (if x.2 > 0 then out ++ sep.toArray else out) ++ x.1) acc.toArray = (acc ++ (ps.map (sep ++ ·)).flatten).toArray
  | [], acc, k, _ => by simp
  | p :: ps, acc, k, hk => by
    rw [List.map_cons, List.zipIdx_cons, List.foldl_cons]
    have ih := joined_go sep ps (acc ++ sep ++ p) (k + 1) (by (clear acc ps p sep hk; (first | lia | omega)))
    simp only [if_pos hk, gt_iff_lt]
    have e : acc.toArray ++ sep.toArray ++ p.toArray = (acc ++ sep ++ p).toArray := by simp
    rw [e]
    simp only [gt_iff_lt] at ih
    rw [ih]
    simp
noncomputable def joinB (sep : List UInt8) : List (List UInt8) → List UInt8
  | [] => []
  | [p] => p
  | p :: q :: r => p ++ sep ++ joinB sep (q :: r)
theorem joinB_flat (sep : List UInt8) : ∀ (p : List UInt8) (ps : List (List UInt8)), joinB sep (p :: ps) = p ++ (ps.map (sep ++ ·)).flatten
  | p, [] => by simp [joinB]
  | p, q :: r => by
    have ih := joinB_flat sep q r
    simp [joinB, ih]
theorem joined_eq (sep : List UInt8) (ps : List (List UInt8)) : Bytes.joined sep.toArray (ps.map List.toArray) = (joinB sep ps).toArray := by
  unfold Bytes.joined
  cases ps with
  | nil => rfl
  | cons p ps =>
    rw [List.map_cons, List.zipIdx_cons, List.foldl_cons]
    have := joined_go sep ps p 1 (by (clear ps p sep; (first | lia | omega)))
    simp only [gt_iff_lt, Nat.lt_irrefl, if_false, Nat.zero_add] at this ⊢
    have e : (#[] : Array UInt8) ++ p.toArray = p.toArray := by simp
    rw [e, this, joinB_flat]
theorem joinB_map (sep : List Nat) : ∀ ps : List (List Nat), joinB (sep.map UInt8.ofNat) (ps.map (·.map UInt8.ofNat)) = (joinS sep ps).map UInt8.ofNat
  | [] => rfl
  | [p] => rfl
  | p :: q :: r => by
    have ih := joinB_map sep (q :: r)
    simp only [List.map_cons] at ih
    simp [joinB, joinS, ih]
theorem joinS_length (sep : List Nat) : ∀ ps : List (List Nat), (joinS sep ps).length = (ps.map List.length).sum + sep.length * (ps.length - 1)
  | [] => by simp [joinS]
  | [p] => by simp [joinS]
  | p :: q :: r => by
    have ih := joinS_length sep (q :: r)
    simp only [joinS, List.length_append, ih, List.map_cons, List.sum_cons, List.length_cons]
    have : sep.length * (r.length + 1 + 1 - 1) = sep.length * (r.length + 1 - 1) + sep.length := by
      have e1 : r.length + 1 + 1 - 1 = r.length + 1 - 1 + 1 := by (clear ih p q sep; (first | lia | omega))
      rw [e1, Nat.mul_succ]
    (clear ih; (first | lia | omega))
theorem joinS_mem {sep : List Nat} {x : Nat} : ∀ {ps : List (List Nat)}, x ∈ joinS sep ps → x ∈ sep ∨ ∃ p ∈ ps, x ∈ p
  | [], h => by simp [joinS] at h
  | [p], h => .inr ⟨p, List.mem_cons_self, h⟩
  | p :: q :: r, h => by
    simp only [joinS, List.mem_append] at h
    rcases h with (h | h) | h
    · exact .inr ⟨p, List.mem_cons_self, h⟩
    · exact .inl h
    · rcases joinS_mem h with h | ⟨p', hp', h⟩
      · exact .inl h
      · exact .inr ⟨p', List.mem_cons_of_mem _ hp', h⟩
theorem foldl_sizes (ps : List (List Nat)) : ∀ k : Nat, (ps.map arr).foldl (fun a b => a + b.size) k = k + (ps.map List.length).sum := by
  induction ps with
  | nil => intro k; simp
  | cons p ps ih => intro k; rw [List.map_cons, List.foldl_cons, ih]; simp; (clear ih; (first | lia | omega))

theorem RepL.bytesAt {z : Z} {ps : List (List Nat)} {xs : List Value} (r : RepL z (ps.map (.txt true)) xs) {i : Nat} {p : List Nat} (h : ps[i]? = some p) : ∃ t, xs[i]? = some (.bytes (arr p) t) ∧ ∀ c ∈ p, c < 256 := by
  obtain ⟨x, hx, rx⟩ := r.get (i := i) (v := .txt true p) (by rw [List.getElem?_map, h]; rfl)
  have rxq := rx.e; clear rx; obtain ⟨t, rfl, hl⟩ := rxq
  exact ⟨t, hx, hl⟩

section
variable {prog : Program} {w : World} {A : Around} {E : Value → Shared → Prop} {s : Shared}
noncomputable abbrev JS := Array (Array UInt8) × List (Value × Option Value)
/-- one item of a join of octets -/
noncomputable def bodyJ (a : Addr) (n : Nat) (i : Nat) (__s : JS) : Sem (ForInStep JS) := do
  let held : List Value := (Value.ref a) :: __s.2.flatMap fun (y, u) => y :: u.toList
  let some now ← seqItems? (.ref a) | (do unsupported "internal:bytes.join"; pure (ForInStep.yield (__s.1, __s.2)))
  let x := now.getD i .none
  let jp : Unit → Sem (ForInStep (Array (Array UInt8) × List (Value × Option Value))) := fun _ => do
    let some (b, w) ← holding (x :: held) (Bytes.takeBufferQuiet? "bytes.join" x 0) | (do
      rule "bytes.join.item-not-bytes-like"
      holding (x :: held.drop 1) point
      Bytes.joinLetGo __s.2 [x]
      raiseErrorMade "TypeError" s!"sequence item {i}: expected a bytes-like object, {← typeNameOf x} found"
      pure (ForInStep.yield (__s.1, __s.2)))
    let some after ← seqItems? (.ref a) | (do unsupported "internal:bytes.join"; pure (ForInStep.yield (__s.1.push b, __s.2 ++ [(x, w)])))
    if after.size != n then do
      rule "bytes.join.changed-size"
      Bytes.joinLetGo (__s.2 ++ [(x, w)]) []
      raiseErrorWords "RuntimeError" "sequence changed size during iteration"
      pure (ForInStep.yield (__s.1.push b, __s.2 ++ [(x, w)]))
    else pure (ForInStep.yield (__s.1.push b, __s.2 ++ [(x, w)]))
  if (Bytes.Kind.bytes == Bytes.Kind.bytearray || __s.2.any fun x => x.1.onHeap) = true then do
    match ← specialOf x "__buffer__" with
    | none => jp ()
    | some (.builtin _) => jp ()
    | some val => do jp (← unsupported "bytes.join:buffer")
  else jp ()
noncomputable def tailJ (sep : List Nat) (t : Tok) (r : JS) : Sem PySem.Fin := do
  let sep' ← Bytes.payload (.bytes (arr sep) t)
  let jp : Unit → Sem PySem.Fin := fun _ => do
    let result ← Bytes.Kind.bytes.new (Bytes.joined sep' r.1.toList)
    holding (result :: r.2.flatMap fun (y, u) => y :: u.toList) point
    Bytes.joinLetGo r.2 [result]
    ret result
  if Bytes.tooLong (r.1.foldl (fun x1 x2 => x1 + x2.size) (sep'.size * (r.1.size - 1))) = true then do
    jp (← unsupported "bytes.join:memory")
  else jp ()
noncomputable def longJ (sep : List Nat) (t : Tok) (a : Addr) (n : Nat) : Sem PySem.Fin := forIn [:n] ((#[], []) : JS) (bodyJ a n) >>= tailJ sep t
theorem sub_step {n j : Nat} (h : j < n) : n - j = (n - (j + 1)) + 1 := by (first | lia | omega)
theorem bodyJ_ok {a : Addr} {p : List Nat} {tk : Tok} {xs : List Value} {n i : Nat} {b : JS} (ho : s.heap.get? a = some (lstO xs n)) (hx : xs[i]? = some (.bytes (arr p) tk)) (hb2 : ∀ p ∈ b.2, p.2 = none ∧ p.1.onHeap = false) {Q : ForInStep JS → Shared → Prop}
    (h : Q (.yield (b.1.push (arr p), b.2 ++ [(.bytes (arr p) tk, none)])) s) : wpAny (model prog w) A (bodyJ a xs.toArray.size i b) Q E s := by
  have seqI : ∀ {Q : Option (Array Value) → Shared → Prop} {A E}, Q (some xs.toArray) s → wpAny (model prog w) A (seqItems? (.ref a)) Q E s := fun h => by
    unfold seqItems?
    exact wpAny_bind (wpAny_load ho (wpAny_pure h))
  have hx' : xs.toArray.getD i .none = .bytes (arr p) tk := by
    simp [Array.getD_eq_getD_getElem?, hx]
  have hany : (Bytes.Kind.bytes == Bytes.Kind.bytearray || b.2.any fun x => x.1.onHeap) = false := by
    have : (b.2.any fun x => x.1.onHeap) = false := by
      rw [List.any_eq_false]; intro q hq; rw [(hb2 q hq).2]; exact Bool.false_ne_true
    rw [this]; rfl
  unfold bodyJ
  refine wpAny_bind (seqI ?_)
  dsimp only
  rw [hx', if_neg (by rw [hany]; exact Bool.false_ne_true)]
  refine wpAny_bind (wpAny_holding (wpAny_of_eq takeBufferQuiet_eq ?_))
  refine wpAny_bind (seqI ?_)
  dsimp only
  rw [if_neg (by simp)]
  exact wpAny_pure h
theorem tailJ_ok {sep : List Nat} {t : Tok} {ps : List (List Nat)} {r : JS} {Q : PySem.Fin → Shared → Prop} (hall : r.1.toList = ps.map arr) (hr2 : ∀ p ∈ r.2, p.2 = none) (hn : (joinS sep ps).length ≤ 16777216)
    (hq : ∀ t' k, Q (.done (.ret (.bytes (arr (joinS sep ps)) t'))) { s with toks := k }) : wpAny (model prog w) A (tailJ sep t r) Q E s := by
  have hsize : r.1.foldl (fun x1 x2 => x1 + x2.size) ((arr sep).size * (r.1.size - 1)) = (joinS sep ps).length := by
    have h1 : r.1.size = ps.length := by rw [← Array.length_toList, hall, List.length_map]
    rw [← Array.foldl_toList, hall, foldl_sizes, h1, joinS_length]
    simp; (clear h1 hall hr2 hq hn; (first | lia | omega))
  have hj3 : Bytes.joined (arr sep) r.1.toList = arr (joinS sep ps) := by
    rw [hall]
    have : ps.map arr = (ps.map (·.map UInt8.ofNat)).map List.toArray := by rw [List.map_map]; rfl
    rw [this]
    show Bytes.joined (sep.map UInt8.ofNat).toArray _ = _
    rw [joined_eq, joinB_map]
  unfold tailJ
  refine wpAny_bind (wpAny_of_eq (a := arr sep) rfl ?_)
  rw [if_neg (by rw [hsize, PySem.W.KBy.tooLong_not hn]; exact Bool.false_ne_true), hj3]
  refine wpAny_bind ?_
  show wpAny _ _ (mkBytes _) _ _ _
  refine wpAny_mkBytes ?_ (by rw [List.size_toArray, List.length_map]; exact size_ok hn)
  refine wpAny_bind (wpAny_holding (wpAny_point ?_))
  refine wpAny_bind (wpAny_joinLetGo hr2 ?_)
  exact wpAny_pure (hq _ _)
theorem longJ_ok {sep : List Nat} {t : Tok} {a : Addr} {ps : List (List Nat)} {xs : List Value} {n : Nat} {z : Z} {Q : PySem.Fin → Shared → Prop} (hr : RepL z (ps.map (.txt true)) xs) (hn : (joinS sep ps).length ≤ 16777216) (ho : s.heap.get? a = some (lstO xs n))
    (hq : ∀ t' k, Q (.done (.ret (.bytes (arr (joinS sep ps)) t'))) { s with toks := k }) : wpAny (model prog w) A (longJ sep t a xs.toArray.size) Q E s := by
  have hlen : xs.length = ps.length := by rw [hr.length, List.length_map]
  unfold longJ
  refine wpAny_bind ?_
  rw [Std.Legacy.Range.forIn_eq_forIn_range']
  refine wpAny_forIn_list _ (fun rest b s' => s' = s ∧ ∃ i, rest = List.range' i (xs.length - i) ∧ i ≤ xs.length ∧ b.1.toList = (ps.take i).map arr ∧ (∀ p ∈ b.2, p.2 = none ∧ p.1.onHeap = false)) _ ?_ ?_ _ _ ⟨rfl, 0, ?_, Nat.zero_le _, by simp, by simp⟩
  · rintro i rest b s' ⟨rfl, j, hrest, hj, hb1, hb2⟩
    have hlt : j < xs.length := by
      rcases Nat.lt_or_ge j xs.length with h | h
      · exact h
      · rw [Nat.sub_eq_zero_of_le h] at hrest; cases hrest
    have hij : i = j ∧ rest = List.range' (j + 1) (xs.length - (j + 1)) := by
      rw [sub_step (by assumption), List.range'_succ] at hrest
      exact List.cons.inj hrest
    obtain ⟨rfl, hrest'⟩ := hij
    obtain ⟨p, hp⟩ : ∃ p, ps[i]? = some p := ⟨_, List.getElem?_eq_getElem (hlen ▸ hlt)⟩
    obtain ⟨tk, hx, hp256⟩ := hr.bytesAt hp
    refine bodyJ_ok ho hx hb2 ⟨rfl, i + 1, hrest', hlt, ?_, fun q hq => ?_⟩
    · rw [Array.toList_push, hb1, List.take_add_one, hp]; simp
    · rcases List.mem_append.mp hq with hq | hq
      · exact hb2 q hq
      · rw [List.mem_singleton] at hq; subst hq; exact ⟨rfl, rfl⟩
  · rintro b s' ⟨rfl, j, hrest, hj, hb1, hb2⟩
    have hj2 : j = xs.length := by
      rcases Nat.lt_or_ge j xs.length with h | h
      · rw [sub_step (by assumption), List.range'_succ] at hrest; cases hrest
      · exact Nat.le_antisymm hj h
    exact tailJ_ok (by rw [hb1, hj2, hlen, List.take_length]) (fun p hp => (hb2 p hp).1) hn hq
  · simp
theorem meets_bytes_join {sep : List Nat} {t : Tok} {a : Addr} {ps : List (List Nat)} {xs : List Value} {n : Nat} {z : Z} (hr : RepL z (ps.map (.txt true)) xs) (hs : ∀ c ∈ sep, c < 256) (hn : (joinS sep ps).length ≤ 16777216) :
    Meets («bytes.join» ⟨[.bytes (arr sep) t, .ref a], []⟩) (fun _ R s => s.heap.get? a = some (lstO xs n) ∧ ∀ t' k, R (.ok (.ret (.bytes (arr (joinS sep ps)) t'))) { s with toks := k }) := by
  refine .of_wp fun prog w A R s hS => ?_
  obtain ⟨ho, hq⟩ := hS
  have hlen : xs.length = ps.length := by rw [hr.length, List.length_map]
  have hT : s.TypeIs (.ref a) "list" := ⟨_, ho, rfl⟩
  show wpAny (model prog w) A.in1 (Bytes.joinItems (.ref a) >>= fun seq => _) _ _ s
  refine wpAny_bind ?_
  unfold Bytes.joinItems
  refine wpAny_bind (wpAny_typeOf hT ?_)
  refine wpAny_ite ?_
  rw [if_pos (by rfl)]
  refine wpAny_pure ?_
  have seqI : ∀ {Q : Option (Array Value) → Shared → Prop} {A E}, Q (some xs.toArray) s → wpAny (model prog w) A (seqItems? (.ref a)) Q E s := fun h => by
    unfold seqItems?
    exact wpAny_bind (wpAny_load ho (wpAny_pure h))
  refine wpAny_bind (seqI ?_)
  show wpAny _ _ (if (Bytes.Kind.bytes == Bytes.Kind.bytes) = true then (match xs.toArray with
      | #[x] => (do let k ← typeOf x; if (k == Value.type "bytes") = true then (do rule "bytes.join.one-item"; ret x) else longJ sep t a xs.toArray.size)
      | _ => longJ sep t a xs.toArray.size) else longJ sep t a xs.toArray.size) _ _ s
  rw [if_pos (show (Bytes.Kind.bytes == Bytes.Kind.bytes) = true from rfl)]
  have long := longJ_ok (prog := prog) (w := w) (A := A.in1) (E := fun e s' => R (.error e) s') (sep := sep) (t := t) (Q := fun fin s' => ∃ v, fin = .done (.ret v) ∧ R (.ok (.ret v)) s') hr hn ho (fun t' k => ⟨_, rfl, hq t' k⟩)
  generalize longJ sep t a xs.toArray.size = T at long ⊢
  by_cases h1 : xs.length = 1
  · obtain ⟨x, rfl⟩ := List.length_eq_one_iff.mp h1
    obtain ⟨p, rfl⟩ : ∃ p, ps = [p] := List.length_eq_one_iff.mp (by rw [← hlen, h1])
    obtain ⟨tk, hx, hp256⟩ := hr.bytesAt (i := 0) rfl
    obtain rfl := Option.some.inj hx
    refine wpAny_bind (wpAny_typeOf (PySem.W.typeIs_bytes s _ tk) ?_)
    refine wpAny_ite ?_
    rw [if_pos (by rfl)]
    exact wpAny_bind (wpAny_rule (wpAny_pure ⟨_, rfl, hq tk s.toks⟩))
  · cases xs with
    | nil => exact long
    | cons x r =>
      cases r with
      | nil => exact absurd rfl h1
      | cons y r => exact long
end
end
end PL

end
section
open PySem PySem.Calls PyProof.Rows
set_option Elab.async false
set_option linter.unusedVariables false
set_option linter.unusedSimpArgs false
namespace PL

section
variable {C : Cx} {X : XP} {σ : St} {Q : V → St → Prop} {o : Bool} {l m : List Nat} {i : Int} {c : Nat}

theorem strlen {l : List Nat} : (⟨l.toArray⟩ : Str).length = l.length := by simp [Str.length]
theorem str_app (l m : List Nat) : (⟨l.toArray⟩ : Str) ++ ⟨m.toArray⟩ = ⟨(l ++ m).toArray⟩ := Str.ext' (by simp [Str.cps_append])
theorem arr_app (l m : List Nat) : arr l ++ arr m = arr (l ++ m) := by simp [arr]

theorem Bin.add_txt (hn : l.length + m.length ≤ 16777216) (h : Q (.txt o (l ++ m)) σ) : Bin C .Add (.txt o l) (.txt o m) Q X σ := by
  intro z₀ x y rx ry zs z s hz hR
  have rxq := rx.txt_; clear rx; rcases rxq with ⟨rfl, t, rfl⟩ | ⟨rfl, t, rfl, hl⟩
  · have ryq := ry.e; clear ry; obtain ⟨u, rfl⟩ := ryq
    refine SB.add (fun t' k => ?_) (by rw [strlen, strlen]; exact size_ok hn)
    rw [str_app]
    exact PVal.toks hR (.str _ _) h
  · have ryq := ry.e; clear ry; obtain ⟨u, rfl, hm⟩ := ryq
    refine PySem.W.KBy.add_bytes (by simpa using hn) fun t' k => ?_
    rw [arr_app]
    exact PVal.toks hR (.bytes _ _ fun c hc => (List.mem_append.mp hc).elim (hl c) (hm c)) h
theorem Inp.add_str (hn : l.length + m.length ≤ 16777216) (h : Q (.txt false (l ++ m)) σ) : Inp C .Add (.txt false l) (.txt false m) Q X σ := by
  intro z₀ x y rx ry zs z s hz hR
  have rxq := rx.e; clear rx; obtain ⟨t, rfl⟩ := rxq
  have ryq := ry.e; clear ry; obtain ⟨u, rfl⟩ := ryq
  refine SB.iadd (fun t' k => ?_) (by rw [strlen, strlen]; exact size_ok hn)
  rw [str_app]
  exact PVal.toks hR (.str _ _) h

theorem fold_rep (l : List Nat) : ∀ (n : Nat) (acc : List Nat), (List.replicate n l.toArray).foldl (· ++ ·) acc.toArray = (acc ++ (List.replicate n l).flatten).toArray
  | 0, acc => by simp
  | n + 1, acc => by
    rw [List.replicate_succ, List.foldl_cons, List.append_toArray, fold_rep l n (acc ++ l), List.replicate_succ, List.flatten_cons, List.append_assoc]
theorem txt_mul (l : List Nat) (n : Int) : Txt.mul ⟨l.toArray⟩ n = ⟨((List.replicate n.toNat l).flatten).toArray⟩ := by
  unfold Txt.mul
  by_cases h1 : n < 1
  · rw [if_pos h1]
    have : n.toNat = 0 := by (clear l; (first | lia | omega))
    rw [this]; rfl
  · rw [if_neg h1]
    by_cases h2 : (n == 1 || (⟨l.toArray⟩ : Str).length == 0) = true
    · rw [if_pos h2]
      simp only [Bool.or_eq_true, beq_iff_eq, strlen] at h2
      rcases h2 with h2 | h2
      · subst h2; simp
      · have : l = [] := List.length_eq_zero_iff.mp h2
        subst this; simp
    · rw [if_neg h2]
      have := fold_rep l n.toNat []
      rw [List.nil_append] at this
      rw [← this]
/-- a text of one sign, over and over -/
theorem Bin.mul_txt (hlo : -1048576 ≤ i) (hhi : i ≤ 1048576) (h : Q (.txt o (List.replicate i.toNat c)) σ) : Bin C .Mult (.txt o [c]) (.int i) Q X σ := by
  intro z₀ x x0 rx w0 zs z s hz hR
  have w0q := w0.e; clear w0; obtain ⟨_, rfl⟩ := w0q
  have e : (List.replicate i.toNat [c]).flatten = List.replicate i.toNat c := by
    generalize i.toNat = n
    induction n with
    | zero => rfl
    | succ n ih => rw [List.replicate_succ, List.flatten_cons, ih, List.replicate_succ]; rfl
  have rxq := rx.txt_; clear rx; rcases rxq with ⟨rfl, t, rfl⟩ | ⟨rfl, t, rfl, hl⟩
  · refine SB.mul (mulOk_of 1 1048576 (by simp [Str.length]) (by (clear h t e hR hz s z zs z₀ hlo c Q σ X C; (first | lia | omega))) (by (clear h t e hR hz s z zs z₀ c Q σ X C hhi; (first | lia | omega))) (by decide) (by decide)) fun t' k => ?_
    rw [txt_mul, e]
    exact PVal.toks hR (.str _ _) h
  · refine PySem.W.bytes_mul_any (by simp) hlo hhi (by simp) fun t' k => ?_
    have e2 : (List.replicate i.toNat (List.map UInt8.ofNat [c])).flatten = (List.replicate i.toNat c).map UInt8.ofNat := by
      rw [← e, List.map_flatten, List.map_replicate]
    rw [e2]
    refine PVal.toks hR (.bytes _ _ fun d hd => ?_) h
    rw [(List.mem_replicate.mp hd).2]
    exact hl c List.mem_cons_self

/-! methods of texts -/
theorem call_rfind_str (h : Q (.int ((cut c l : Int) - 1)) σ) : CallV C (.builtin "str.rfind") [.txt false l, .txt false [c]] Q X σ := by
  refine CallV.toks ?_
  intro z₀ zs z s xs hz hR r
  have rq := RepL.inv r; clear r; obtain ⟨_, _, rfl, r1, r⟩ := rq
  have r1q := r1.e; clear r1; obtain ⟨t, rfl⟩ := r1q
  have rq := RepL.inv r; clear r; obtain ⟨_, _, rfl, r2, r⟩ := rq
  have r2q := r2.e; clear r2; obtain ⟨u, rfl⟩ := r2q
  cases r.inv0; clear r
  refine SC.rfind ?_
  rw [str_rfind]
  exact PVal.toks hR (.int _ _) h
theorem call_rfind_bytes (h : Q (.int ((cut c l : Int) - 1)) σ) : CallV C (.builtin "bytes.rfind") [.txt true l, .txt true [c]] Q X σ := by
  refine CallV.toks ?_
  intro z₀ zs z s xs hz hR r
  have rq := RepL.inv r; clear r; obtain ⟨_, _, rfl, r1, r⟩ := rq
  have r1q := r1.e; clear r1; obtain ⟨t, rfl, hl⟩ := r1q
  have rq := RepL.inv r; clear r; obtain ⟨_, _, rfl, r2, r⟩ := rq
  have r2q := r2.e; clear r2; obtain ⟨u, rfl, hc⟩ := r2q
  cases r.inv0; clear r
  exact call_bytes_rfind hl (hc c List.mem_cons_self) (PVal.toks hR (.int _ _) h)
theorem str_rstrip (l : List Nat) (c : Nat) : Txt.rstripChars ⟨l.toArray⟩ ⟨#[c]⟩ = ⟨(rstripS c l).toArray⟩ := by
  unfold Txt.rstripChars Txt.stripBy
  have eg : (⟨#[c]⟩ : Str).cps.contains = fun x => x == c := by
    funext x
    rw [Bool.eq_iff_iff]
    simp
  rw [eg]
  have key : l.length - (l.reverse.takeWhile (fun x => x == c)).length = (rstripS c l).length := by
    unfold rstripS
    rw [List.length_reverse]
    have h := congrArg List.length (List.takeWhile_append_dropWhile (p := fun x => x == c) (l := l.reverse))
    rw [List.length_append, List.length_reverse] at h
    (clear eg; (first | lia | omega))
  have hhi : stripHi (fun x => x == c) true ⟨l.toArray⟩ 0 = (rstripS c l).length := by
    show (⟨l.toArray⟩ : Str).length - _ = _
    rw [strlen]; simpa using key
  have hpre : rstripS c l = l.take (rstripS c l).length := by
    have h := List.takeWhile_append_dropWhile (p := fun x => x == c) (l := l.reverse)
    have h2 := congrArg List.reverse h
    rw [List.reverse_append, List.reverse_reverse] at h2
    have h3 : l = rstripS c l ++ (l.reverse.takeWhile (fun x => x == c)).reverse := h2.symm
    generalize rstripS c l = r at h3 ⊢
    rw [h3]; simp
  have hlo : stripLo (fun x => x == c) false ⟨l.toArray⟩ = 0 := rfl
  unfold stripSame stripped
  rw [hlo, hhi, strlen]
  by_cases h : ((0 : Nat) == 0 && (rstripS c l).length == l.length) = true
  · rw [if_pos h]
    simp only [Bool.and_eq_true, beq_iff_eq] at h
    rw [rstripS_same h.2]
  · rw [if_neg h]
    apply Str.ext'
    show ((⟨l.toArray⟩ : Str).cps.extract 0 (rstripS c l).length) = _
    conv => rhs; rw [hpre]
    simp [List.extract_toArray, List.extract_eq_take_drop]
theorem call_rstrip_str (hn : l.length ≤ 16777216) (h : Q (.txt false (rstripS c l)) σ) : CallV C (.builtin "str.rstrip") [.txt false l, .txt false [c]] Q X σ := by
  refine CallV.toks ?_
  intro z₀ zs z s xs hz hR r
  have rq := RepL.inv r; clear r; obtain ⟨_, _, rfl, r1, r⟩ := rq
  have r1q := r1.e; clear r1; obtain ⟨t, rfl⟩ := r1q
  have rq := RepL.inv r; clear r; obtain ⟨_, _, rfl, r2, r⟩ := rq
  have r2q := r2.e; clear r2; obtain ⟨u, rfl⟩ := r2q
  cases r.inv0; clear r
  refine SC.rstripChars (fun t' k => ?_) (by rw [strlen]; exact size_ok hn)
  rw [str_rstrip]
  exact PVal.toks hR (.str _ _) h
theorem call_rstrip_bytes (hn : l.length ≤ 16777216) (h : Q (.txt true (rstripS c l)) σ) : CallV C (.builtin "bytes.rstrip") [.txt true l, .txt true [c]] Q X σ := by
  refine CallV.toks ?_
  intro z₀ zs z s xs hz hR r
  have rq := RepL.inv r; clear r; obtain ⟨_, _, rfl, r1, r⟩ := rq
  have r1q := r1.e; clear r1; obtain ⟨t, rfl, hl⟩ := r1q
  have rq := RepL.inv r; clear r; obtain ⟨_, _, rfl, r2, r⟩ := rq
  have r2q := r2.e; clear r2; obtain ⟨u, rfl, hc⟩ := r2q
  cases r.inv0; clear r
  exact call_bytes_rstrip hl (hc c List.mem_cons_self) hn fun t' k => PVal.toks hR (.bytes _ _ fun d hd => hl d (mem_rstripS hd)) h
/-- begins with a sign, ends with it -/
noncomputable def headIs (c : Nat) (l : List Nat) : Bool := l.head? == some c
noncomputable def lastIs (c : Nat) (l : List Nat) : Bool := l.getLast? == some c
theorem call_startswith_str (h : Q (.bool (headIs c l)) σ) : CallV C (.builtin "str.startswith") [.txt false l, .txt false [c]] Q X σ := by
  refine CallV.toks ?_
  intro z₀ zs z s xs hz hR r
  have rq := RepL.inv r; clear r; obtain ⟨_, _, rfl, r1, r⟩ := rq
  have r1q := r1.e; clear r1; obtain ⟨t, rfl⟩ := r1q
  have rq := RepL.inv r; clear r; obtain ⟨_, _, rfl, r2, r⟩ := rq
  have r2q := r2.e; clear r2; obtain ⟨u, rfl⟩ := r2q
  cases r.inv0; clear r
  refine SC.startswith ?_
  have e : Txt.startswith ⟨l.toArray⟩ ⟨#[c]⟩ = headIs c l := by
    rw [Bool.eq_iff_iff]
    have := at_one l c 0
    unfold StrLaws.At at this
    unfold Txt.startswith headIs
    rw [Bool.and_eq_true, decide_eq_true_eq, this, beq_iff_eq, List.head?_eq_getElem?]
  rw [show ([c] : List Nat).toArray = #[c] from rfl, e]
  exact PVal.same hR (.bool _) h
theorem call_endswith_str (h : Q (.bool (lastIs c l)) σ) : CallV C (.builtin "str.endswith") [.txt false l, .txt false [c]] Q X σ := by
  refine CallV.toks ?_
  intro z₀ zs z s xs hz hR r
  have rq := RepL.inv r; clear r; obtain ⟨_, _, rfl, r1, r⟩ := rq
  have r1q := r1.e; clear r1; obtain ⟨t, rfl⟩ := r1q
  have rq := RepL.inv r; clear r; obtain ⟨_, _, rfl, r2, r⟩ := rq
  have r2q := r2.e; clear r2; obtain ⟨u, rfl⟩ := r2q
  cases r.inv0; clear r
  refine SC.endswith ?_
  have e : Txt.endswith ⟨l.toArray⟩ ⟨#[c]⟩ = lastIs c l := by
    rw [Bool.eq_iff_iff]
    unfold Txt.endswith lastIs
    have h1 : (⟨#[c]⟩ : Str).length = 1 := rfl
    rw [h1, strlen, Bool.and_eq_true, decide_eq_true_eq, beq_iff_eq, List.getLast?_eq_getElem?]
    by_cases hl : 1 ≤ l.length
    · have := at_one l c (l.length - 1)
      unfold StrLaws.At at this
      rw [h1, strlen] at this
      rw [← this]
      constructor
      · rintro ⟨_, h⟩; exact ⟨by (first | lia | omega), h⟩
      · rintro ⟨_, h⟩; exact ⟨by (first | lia | omega), h⟩
    · have : l = [] := List.length_eq_zero_iff.mp (by (clear h1 u t hR hz s z zs z₀ h; (first | lia | omega)))
      subst this; simp
  rw [show ([c] : List Nat).toArray = #[c] from rfl, e]
  exact PVal.same hR (.bool _) h
end
end PL

end
section
open PySem PySem.Calls PyProof.Rows
set_option Elab.async false
set_option linter.unusedVariables false
set_option linter.unusedSimpArgs false
namespace PL

noncomputable abbrev XL := String → Led → Prop

/-- what a call of a function does, for every caller -/
noncomputable def CallT (g : Gd) (n : Nat) (f : Value) (vs : List V) (Q : V → Led → Prop) (X : XL) (H : Led) : Prop :=
  ∀ (A : Around) (outer : List Env) (zs z : Z) (s : Shared) (xs : List Value), A.depth + n ≤ 900 → A.units + 20 * n ≤ 9000 → A.frames = some outer → A.handled = none → FrOK outer zs → RH g zs H z s → RepL z vs xs →
    codeAny (model g.prog g.w) A (.call f ⟨xs, []⟩) (fun r s' => match r with
      | .ok (.ret val) => ∃ z' H' v, Z.le z z' ∧ RH g zs H' z' s' ∧ Rep z' v val ∧ Q v H'
      | .ok _ => False
      | .error e => ∃ z' H' cls, Z.le z z' ∧ RH g zs H' z' s' ∧ Fly g zs H' z' outer s' e cls ∧ X cls H') s

theorem Fly.mono {g : Gd} {zs zs' : Z} {H : Led} {z : Z} {fr : List Env} {s : Shared} {e : Value} {cls : String} (h : ∀ b o, zs b = some o → zs' b = some o) (F : Fly g zs' H z fr s e cls) : Fly g zs H z fr s e cls := by
  obtain ⟨a, B, he, F⟩ := F
  exact ⟨a, B, he, F.stays, F.new, F.frames, F.hz, F.led, fun b o q => F.hid b o (h b o q), F.track⟩
theorem RH.slots {g : Gd} {zs : Z} {H : Led} {z : Z} {s : Shared} {h' B : Heap} (r : RH g zs H z s) (k : B.StaysIn h') (hz : ∀ b o, z b = some o → B.get? b = some o) (hH : ∀ p ∈ H, AOK g z B p.1 p.2)
    (hid : ∀ b o, zs b = some o → (∀ vs ep, o.data ≠ .dict vs ep) → B.get? b = some o) (u : s.heap.UpToSlots h') : RH g zs H z { s with heap := h' } where
  hz b o e := k b o (hz b o e)
  hbase := r.hbase
  hzs b o e := by
    by_cases hd : ∀ vs ep, o.data ≠ .dict vs ep
    · exact ⟨o.slots, k b o (hid b o e hd), fun _ => rfl⟩
    · obtain ⟨sl, q, w⟩ := r.hzs b o e
      have hd' : ∃ vs ep, o.data = .dict vs ep := Classical.byContradiction fun q => hd fun vs ep e => q ⟨vs, ep, e⟩
      obtain ⟨vs, ep, hd'⟩ := hd'
      obtain ⟨sl', q'⟩ := u b _ q fun ws e => by rw [show ({ o with slots := sl } : Obj).data = o.data from rfl, hd'] at e; cases e
      exact ⟨sl', q', fun q => absurd hd' (q vs ep)⟩
  disj := r.disj
  hH p hp := ⟨(hH p hp).keep (k _), (r.hH p hp).2⟩
  nodup := r.nodup
  gens := r.gens
  os := r.os
theorem leave_fly {M : Model} {A : Around} {env : Env} {outer : List Env} {L : Addr} {g : Gd} {zs : Z} {H : Led} {z : Z} {s : Shared} {e : Value} {cls : String} {Q : Unit → Shared → Prop} {E : Value → Shared → Prop}
    (hfr : A.frames = some (env :: outer)) (hf : env.frame = some L) (F : Fly g zs H z (env :: outer) s e cls) (r : RH g zs H z s)
    (hQ : ∀ h', RH g zs H z { s with heap := h' } → Fly g zs H z outer { s with heap := h' } e cls → Q () { s with heap := h' }) : wpAny M A (leaving env e) Q E s := by
  obtain ⟨a, B, rfl, F⟩ := F
  have fin : ∀ h' a0, Heap.LeftW B (env :: outer) a (.type cls) a0 s.heap h' → Q () { s with heap := h' } := by
    rintro h' a0 ⟨k1, k2, k3, k4⟩
    exact hQ h' (r.slots k1 F.hz F.led F.hid k4) ⟨a, B, rfl, k1, F.new, k2.2.2, F.hz, F.led, F.hid, .inr (.inl ⟨a0, k3⟩)⟩
  rcases F.track with ⟨oe, vs, a0, h1, h2, h3, h4, h5, _⟩ | ⟨a0, tr⟩ | ⟨env', rest, L', a0, e1, e2, tr⟩
  · exact wpAny_leaving_firstW hfr F.frames hf h1 F.stays F.new h3 h4 h5 fun h' k => fin h' a0 (h2 ▸ k)
  · exact wpAny_leaving_nextW hfr F.frames hf tr F.stays F.new fun h' k => fin h' a0 k
  · cases e1
    rw [hf] at e2; cases e2
    show wpAny M A (do noteFrame (.ref a) env; setFlight (.ref a) none) Q E s
    refine wpAny_bind (wpAny_noteFrame_againW hf tr ?_)
    exact wpAny_setFlight_noneW F.stays F.frames tr fun h' k1 k2 k3 k4 => fin h' a0 ⟨k1, k2, k3, fun b o hb hn => ⟨o.slots, k4 b o hb hn⟩⟩

section
variable {C : Cx} {σ : St} {zs z : Z} {s : Shared}

/-- the caller's own frame and cells, hidden -/
noncomputable def hid (C : Cx) (zs : Z) (h : Heap) : Z := fun b => if b = C.env.locals ∨ b ∈ C.env.cells.map (·.2) then h.get? b else zs b
theorem hid_of {b : Addr} {o : Obj} (hR : R C zs σ z s) (h : zs b = some o) : hid C zs s.heap b = some o := by
  unfold hid
  split
  · rename_i e
    rcases e with e | e
    · subst e; rw [hR.locFree.2.1] at h; cases h
    · obtain ⟨p, hp, rfl⟩ := List.mem_map.mp e
      obtain ⟨⟨ov, oc, e1, e2⟩, _⟩ := hR.cellsOk p hp
      obtain ⟨sl, e3, e4⟩ := hR.rh.hzs _ _ h
      rw [e1] at e3
      have e5 : oc = { o with slots := sl } := Option.some.inj e3
      have e6 : o.data = .cell ov := by rw [e5] at e2; exact e2
      rw [e1, e5, e4 (fun vs ep e7 => by rw [e6] at e7; cases e7)]
  · exact h
theorem hid_none {b : Addr} (h1 : b ≠ C.env.locals) (h2 : b ∉ C.env.cells.map (·.2)) (h3 : zs b = none) {h : Heap} : hid C zs h b = none := by
  unfold hid; rw [if_neg (by rintro (e | e) <;> contradiction)]; exact h3
theorem R.hide (hR : R C zs σ z s) : RH C.g (hid C zs s.heap) σ.H z s where
  hz := hR.rh.hz
  hbase := hR.rh.hbase
  hzs b o h := by
    unfold hid at h
    split at h
    · exact ⟨o.slots, h, fun _ => rfl⟩
    · exact hR.rh.hzs b o h
  disj b o h := by
    unfold hid at h
    split at h
    · rename_i e
      rcases e with e | e
      · subst e; exact hR.locFree.1
      · obtain ⟨p, hp, rfl⟩ := List.mem_map.mp e
        exact (hR.cellsOk p hp).2.1
    · exact hR.rh.disj b o h
  hH p hp := by
    obtain ⟨a, b, c⟩ := hR.rh.hH p hp
    refine ⟨a, b, hid_none (fun e => hR.locFree.2.2 (e ▸ List.mem_map_of_mem (f := (·.1)) hp)) (fun e => ?_) c⟩
    obtain ⟨q, hq, e⟩ := List.mem_map.mp e
    exact (hR.cellsOk q hq).2.2.2.2 (e ▸ List.mem_map_of_mem (f := (·.1)) hp)
  nodup := hR.rh.nodup
  gens := hR.rh.gens
  os := hR.rh.os
theorem ns_slots {h h' : Heap} {L : Addr} {m : Str → Option Value} (n : h.Ns L m) (k : ∀ o, h.get? L = some o → ∃ sl, h'.get? L = some { o with slots := sl }) : h'.Ns L m := by
  obtain ⟨o, es, ep, a, b, c⟩ := n
  obtain ⟨sl, e⟩ := k o a
  exact ⟨_, es, ep, e, b, c⟩
theorem cell_slots {h h' : Heap} {c : Addr} {v : Option Value} (n : h.IsCell c v) (k : ∀ o, h.get? c = some o → ∃ sl, h'.get? c = some { o with slots := sl }) : h'.IsCell c v := by
  obtain ⟨o, a, b⟩ := n
  obtain ⟨sl, e⟩ := k o a
  exact ⟨_, e, b⟩
/-- back in the caller -/
theorem R.back (hR : R C zs σ z s) {H' : Led} {z' : Z} {s' : Shared} (l : Z.le z z') (r : RH C.g (hid C zs s.heap) H' z' s') : R C zs ⟨σ.loc, H'⟩ z' s' := by
  have own : ∀ b, (b = C.env.locals ∨ b ∈ C.env.cells.map (·.2)) → ∀ o, s.heap.get? b = some o → hid C zs s.heap b = some o := by
    intro b hb o ho
    unfold hid; rw [if_pos hb]; exact ho
  have keep : ∀ b, (b = C.env.locals ∨ b ∈ C.env.cells.map (·.2)) → ∀ o, s.heap.get? b = some o → ∃ sl, s'.heap.get? b = some { o with slots := sl } := fun b hb o ho => let ⟨sl, q, _⟩ := r.hzs b o (own b hb o ho); ⟨sl, q⟩
  have free : ∀ b, (b = C.env.locals ∨ b ∈ C.env.cells.map (·.2)) → ∀ o, s.heap.get? b = some o → z' b = none ∧ b ∉ H'.map (·.1) := by
    intro b hb o ho
    refine ⟨r.disj b o (own b hb o ho), fun e => ?_⟩
    obtain ⟨p, hp, rfl⟩ := List.mem_map.mp e
    have := (r.hH p hp).2.2
    rw [own _ hb o ho] at this; cases this
  obtain ⟨m, hn, hm⟩ := hR.ns
  have hL : ∃ o, s.heap.get? C.env.locals = some o := let ⟨o, _, _, a, _⟩ := hn; ⟨o, a⟩
  obtain ⟨oL, hL⟩ := hL
  refine ⟨⟨r.hz, r.hbase, fun b o h => r.hzs b o (hid_of hR h), fun b o h => r.disj b o (hid_of hR h), fun p hp => ?_, r.nodup, r.gens, r.os⟩, ⟨m, ns_slots hn (keep _ (.inl rfl)), fun x v a b => ?_⟩, fun x v a b => ?_, fun p hp => ?_, ?_, hR.fr⟩
  · obtain ⟨a, b, c⟩ := r.hH p hp
    refine ⟨a, b, ?_⟩
    cases e : zs p.1 with
    | none => rfl
    | some o => rw [hid_of hR e] at c; cases c
  · obtain ⟨val, p, q⟩ := hm x v a b
    exact ⟨val, p, q.mono l⟩
  · obtain ⟨c, val, p, q, w⟩ := hR.cells x v a b
    exact ⟨c, val, p, cell_slots q (keep c (.inr (List.mem_map_of_mem (f := (·.2)) (mem_of_lookup p)))), w.mono l⟩
  · obtain ⟨⟨ov, a⟩, _, c, d, _⟩ := hR.cellsOk p hp
    have hm' : p.2 = C.env.locals ∨ p.2 ∈ C.env.cells.map (·.2) := .inr (List.mem_map_of_mem (f := (·.2)) hp)
    obtain ⟨o, ho, _⟩ := id a
    obtain ⟨f1, f2⟩ := free _ hm' o ho
    exact ⟨⟨ov, cell_slots a (keep _ hm')⟩, f1, c, d, f2⟩
  · obtain ⟨f1, f2⟩ := free _ (.inl rfl) oL hL
    exact ⟨f1, hR.locFree.2.1, f2⟩

theorem CallV.fn {X : XP} {Q : V → St → Prop} {f : Value} {vs : List V} {n : Nat} (hn : n ≤ C.n) (hh : C.A.handled = none)
    (h : CallT C.g n f vs (fun v H' => Q v ⟨σ.loc, H'⟩) (fun cls H' => X cls ⟨σ.loc, H'⟩) σ.H) : CallV C f vs Q X σ := by
  intro z₀ xs r zs z s hz hR
  have hd := C.hdep
  have hu := C.hunits
  have hfr : ∃ fr, C.A.frames = some fr ∧ FrOK fr (hid C zs s.heap) := by
    have ho : FrOK C.outer (hid C zs s.heap) := ⟨fun e he => let ⟨a, L, o, b, c, d⟩ := hR.fr.ok e he; ⟨a, L, o, b, hid_of hR c, d⟩⟩
    rcases C.hframes with ⟨a, b⟩ | a
    · refine ⟨_, a, ⟨fun e he => ?_⟩⟩
      rcases List.mem_cons.mp he with rfl | he
      · obtain ⟨m, ⟨oL, es, ep, hL, hdt, _⟩, _⟩ := hR.ns
        refine ⟨by rw [C.hk]; decide, _, oL, b, ?_, _, _, hdt⟩
        unfold hid; rw [if_pos (.inl rfl)]; exact hL
      · exact ho.ok e he
    · exact ⟨_, a, ho⟩
  obtain ⟨fr, hfr1, hfr2⟩ := hfr
  refine wpAny_call (codeAny_mono (h C.A fr _ z s xs (by (clear hfr2 hfr1 fr hu hR hz s z zs r xs z₀ h hh vs f Q X; (first | lia | omega))) (by (clear hfr2 hfr1 fr hd hR hz s z zs r xs z₀ h hh vs f Q X; (first | lia | omega))) hfr1 hh hfr2 hR.hide (r.mono hz)) ?_)
  rintro res s' hres
  cases res with
  | ok fl =>
    cases fl with
    | ret val =>
      obtain ⟨z', H', v, l, r', rv, q⟩ := hres
      exact ⟨z', _, l, hR.back l r', v, rv, q⟩
    | _ => exact hres
  | error e =>
    obtain ⟨z', H', cls, l, r', fl, x⟩ := hres
    exact ⟨z', _, cls, fr, l, hR.back l r', hfr1, fl.mono fun b o q => hid_of hR q, x⟩
end

/-- the names of a call, bound -/
noncomputable def bindV : List (Str × V) → List (Str × V) → List (Str × V)
  | [], l => l
  | (x, v) :: r, l => bindV r (setL l x v)

inductive RepB (z : Z) : List (Str × V) → List (Str × Value) → Prop
  | nil : RepB z [] []
  | cons {x : Str} {v : V} {val : Value} {l : List (Str × V)} {b : List (Str × Value)} (h : Rep z v val) (t : RepB z l b) : RepB z ((x, v) :: l) ((x, val) :: b)
theorem RepB.zip {z : Z} : ∀ (ns : List Str) {vs : List V} {xs : List Value}, RepL z vs xs → RepB z (ns.zip vs) (ns.zip xs)
  | [], _, _, _ => by simp; exact .nil
  | n :: ns, [], _, r => by cases r.inv0; exact .nil
  | n :: ns, v :: vs, _, r => by obtain ⟨x, xs, rfl, h, t⟩ := r.inv; exact RepB.cons h (RepB.zip ns t)

theorem bind_reps {z : Z} {kindOf : Str → Option NameKind} {lv : List (Str × V)} {bs : List (Str × Value)} (rb : RepB z lv bs) : ∀ (loc : List (Str × V)) (m cm : Str → Option Value),
    (∀ x v, loc.lookup x = some v → kindOf x = some .local → ∃ val, m x = some val ∧ Rep z v val) → (∀ x v, loc.lookup x = some v → kindOf x ≠ some .local → ∃ val, cm x = some val ∧ Rep z v val) →
    (∀ x v, (bindV lv loc).lookup x = some v → kindOf x = some .local → ∃ val, bindL kindOf bs m x = some val ∧ Rep z v val) ∧
    (∀ x v, (bindV lv loc).lookup x = some v → kindOf x ≠ some .local → ∃ val, bindC kindOf bs cm x = some val ∧ Rep z v val) := by
  induction rb with
  | nil => intro loc m cm h1 h2; exact ⟨h1, h2⟩
  | @cons y v val lv bs r t ih =>
    intro loc m cm h1 h2
    unfold bindV bindL bindC
    refine ih _ _ _ ?_ ?_
    · intro x w hx hk
      rw [lookup_setL] at hx
      by_cases e : x = y
      · subst e; rw [if_pos rfl] at hx; cases hx
        rw [if_pos hk]; exact ⟨val, by simp, r⟩
      · rw [if_neg e] at hx
        obtain ⟨u, p, q⟩ := h1 x w hx hk
        refine ⟨u, ?_, q⟩
        split
        · simp [e, p]
        · exact p
    · intro x w hx hk
      rw [lookup_setL] at hx
      by_cases e : x = y
      · subst e; rw [if_pos rfl] at hx; cases hx
        rw [if_neg hk]; exact ⟨val, by simp, r⟩
      · rw [if_neg e] at hx
        obtain ⟨u, p, q⟩ := h2 x w hx hk
        refine ⟨u, ?_, q⟩
        split
        · exact p
        · simp [e, p]

/-- a frame of a function whose table is `sc` -/
structure In (C : Cx) (g : Gd) (n : Nat) (sc : Scope) : Prop where
  g : C.g = g
  n : C.n = n
  kind : ∀ x, C.env.kindOf x = sc.names.lookup x
  cell : ∀ x, sc.names.lookup x = some .cell → ∃ c, C.env.cells.lookup x = some c
  calm : C.A.handled = none
  fn : C.env.scope = sc
  gl : C.env.globals = mainGlobals

/-- a def of the text -/
structure FnB (g : Gd) (a : Addr) (fd : FuncData) (body : List Stmt) (sc : Scope) : Prop where
  at_ : ∃ o, g.base.get? a = some o ∧ o.data = .func fd
  code : g.base.CodeRec fd.code fd.qualname
  body : fd.body = .stmts body
  closure : fd.closure = []
  scope : fd.scope = sc
  globals : fd.globals = mainGlobals
  builtins : fd.builtins = builtinsNs
  kind : sc.kind = .function
  co : sc.isCoroutine = false
  gen : sc.isGenerator = false
  nodup : ((cellsFrom 0 sc.names []).map (·.1)).Nodup
/-- one with plain parameters -/
structure IsFn (g : Gd) (a : Addr) (fd : FuncData) (body : List Stmt) (sc : Scope) (params : List Str) : Prop where
  b : FnB g a fd body sc
  bind : ∀ xs : List Value, xs.length = params.length → bindArgs fd ⟨xs, []⟩ = pure (params.zip xs)
  names : ∀ x ∈ params, sc.names.lookup x = some .local ∨ sc.names.lookup x = some .cell
/-- one with a starred last parameter -/
structure IsFnS (g : Gd) (a : Addr) (fd : FuncData) (body : List Stmt) (sc : Scope) (params : List Str) (star : Str) : Prop where
  b : FnB g a fd body sc
  bind : ∀ xs : List Value, params.length ≤ xs.length → bindArgs fd ⟨xs, []⟩ = (PySem.newTuple (xs.drop params.length) >>= fun t => pure (params.zip xs ++ [(star, t)]))
  names : ∀ x ∈ params ++ [star], sc.names.lookup x = some .local ∨ sc.names.lookup x = some .cell

theorem cellsFrom_keys : ∀ (l : List (Str × NameKind)) (n m : Nat) (acc acc' : List (Str × Addr)), acc.map (·.1) = acc'.map (·.1) → (cellsFrom n l acc).map (·.1) = (cellsFrom m l acc').map (·.1)
  | [], _, _, _, _, h => h
  | (x, k) :: r, n, m, acc, acc', h => by
    unfold cellsFrom
    split
    · exact cellsFrom_keys r _ _ _ _ (by simp [h])
    · exact cellsFrom_keys r _ _ _ _ h
theorem lookup_of_mem : ∀ {l : List (Str × Addr)} {p : Str × Addr}, (l.map (·.1)).Nodup → p ∈ l → l.lookup p.1 = some p.2
  | [], _, _, h => by cases h
  | (k, c) :: r, p, hn, h => by
    rw [List.map_cons, List.nodup_cons] at hn
    rw [List.lookup_cons]
    rcases List.mem_cons.mp h with e | h
    · subst e; simp
    · have : (p.1 == k) = false := beq_eq_false_iff_ne.mpr fun e => hn.1 (e ▸ List.mem_map_of_mem (f := (·.1)) h)
      rw [this]; exact lookup_of_mem hn.2 h

theorem zip_fst {α : Type} : ∀ {ns : List Str} {xs : List α} {p : Str × α}, p ∈ ns.zip xs → p.1 ∈ ns
  | [], _, _, h => by simp at h
  | _ :: _, [], _, h => by simp at h
  | n :: ns, x :: xs, p, h => by
    rw [List.zip_cons_cons] at h
    rcases List.mem_cons.mp h with e | h
    · subst e; exact List.mem_cons_self
    · exact List.mem_cons_of_mem _ (zip_fst h)

theorem RepB.fst {z : Z} {l : List (Str × V)} {b : List (Str × Value)} (r : RepB z l b) : b.map (·.1) = l.map (·.1) := by
  induction r with
  | nil => rfl
  | cons _ _ ih => rw [List.map_cons, List.map_cons, ih]
theorem RepB.append {z : Z} {l l' : List (Str × V)} {b b' : List (Str × Value)} (r : RepB z l b) (h : RepB z l' b') : RepB z (l ++ l') (b ++ b') := by
  induction r with
  | nil => exact h
  | cons a _ ih => exact .cons a ih
theorem bindV_mem : ∀ (lv : List (Str × V)) (loc : List (Str × V)) {y : Str} {v : V}, (bindV lv loc).lookup y = some v → y ∈ lv.map (·.1) ∨ loc.lookup y = some v
  | [], loc, y, v, e => .inr e
  | (x, u) :: r, loc, y, v, e => by
    unfold bindV at e
    rcases bindV_mem r _ e with h | h
    · exact .inl (List.mem_cons_of_mem _ h)
    · rw [lookup_setL] at h
      by_cases eq : y = x
      · subst eq; exact .inl List.mem_cons_self
      · rw [if_neg eq] at h; exact .inr h
/-- the frame on top is the function's own -/
noncomputable def OwnFr (C : Cx) : Prop := C.A.frames = some (C.env :: C.outer) ∧ C.env.frame = some C.env.locals
/-- the frame is made, the names are bound, the body runs -/
theorem enter_fn {g : Gd} {n : Nat} {a : Addr} {fd : FuncData} {body : List Stmt} {sc : Scope} {Q : V → Led → Prop} {X : XL} {H : Led} {A : Around} {outer : List Env} {zs z : Z} {s : Shared} {lv : List (Str × V)} {binds : List (Str × Value)} {R' : Result → Shared → Prop} {E : Value → Shared → Prop} (F : FnB g a fd body sc)
    (hd : A.depth + (n + 1) ≤ 900) (hu : A.units + 20 * (n + 1) ≤ 9000) (hfr : A.frames = some outer) (hh : A.handled = none) (hfk : FrOK outer zs) (rh : RH g zs H z s) (rb : RepB z lv binds)
    (hnames : ∀ x ∈ lv.map (·.1), sc.names.lookup x = some .local ∨ sc.names.lookup x = some .cell)
    (hR : ∀ r s', (match r with
      | .ok (.ret val) => ∃ z' H' v, Z.le z z' ∧ RH g zs H' z' s' ∧ Rep z' v val ∧ Q v H'
      | .ok _ => False
      | .error e => ∃ z' H' cls, Z.le z z' ∧ RH g zs H' z' s' ∧ Fly g zs H' z' outer s' e cls ∧ X cls H') → R' r s')
    (h : ∀ C : Cx, In C g n sc → C.ro = [] → OwnFr C → TSs C body (fun fl σ' => Q (match fl with | .ret v => v | _ => .none) σ'.H) (fun cls σ' => X cls σ'.H) ⟨bindV lv [], H⟩) :
    wpAny (model g.prog g.w) A.in1 (newFunctionEnv fd.scope fd.globals fd.closure binds (fd.qualname ++ ".<locals>.") (some a) fd.code none fd.builtins) (fun env s₂ => s₂.heap.NoLimit ∧ codeAny (model g.prog g.w) A (.func body env) R' s₂) E s := by
  have hb := rh.base
  rw [F.closure]
  refine wpAny_newFunctionEnv_cells (by rw [F.scope]; exact F.kind) ?_ fun env he s₁ hin => ?_
  · intro x hx
    rw [F.scope]
    have hm : x.1 ∈ lv.map (·.1) := by rw [← rb.fst]; exact List.mem_map_of_mem (f := (·.1)) hx
    rcases hnames x.1 hm with e | e
    · exact .inl e
    · exact .inr ⟨e, PySem.W.cellsFrom_some _ _ _ (.inl e)⟩
  subst he
  refine ⟨(g.lim.keeps hb).keeps hin.toInCall.keep, codeAny_func ?_⟩
  rw [F.scope, F.globals, F.builtins] at hin ⊢
  let C : Cx := {
    g := g, A := A.deeper (newEnv sc s.heap.objs.size mainGlobals (cellsFrom (s.heap.objs.size + 1) sc.names []) (fd.qualname ++ ".<locals>.") (some a) fd.code none builtinsNs)
    env := newEnv sc s.heap.objs.size mainGlobals (cellsFrom (s.heap.objs.size + 1) sc.names []) (fd.qualname ++ ".<locals>.") (some a) fd.code none builtinsNs
    outer := outer, n := n, hk := F.kind, hglob := rfl, hbuilt := rfl
    hdep := by show A.depth + 1 + n ≤ 900; (clear hin s₁ hb h hR hnames rb rh hfk hh hfr hu F E R' binds lv s z zs outer H X Q sc body fd a g; (first | lia | omega))
    hunits := by show A.units + 3 + 20 * n ≤ 9000; (clear hin s₁ hb h hR hnames rb rh hfk hh hfr hd F E R' binds lv s z zs outer H X Q sc body fd a g; (first | lia | omega))
    hframes := .inl ⟨by show (A.frames.map _) = _; rw [hfr]; rfl, rfl⟩
    apart := hin.apart }
  have hIn : In C g n sc := ⟨rfl, rfl, fun x => rfl, fun x hx => by
    have := PySem.W.cellsFrom_some (x := x) sc.names (s.heap.objs.size + 1) [] (.inl hx)
    exact Option.isSome_iff_exists.mp this, hh, rfl, rfl⟩
  have hnew : ∀ b, s.heap.objs.size ≤ b → z b = none ∧ zs b = none ∧ b ∉ H.map (·.1) := fun b hb => ⟨rh.fresh_z hb, rh.fresh_zs hb, rh.fresh_H hb⟩
  obtain ⟨hrepL, hrepC⟩ := bind_reps (kindOf := C.env.kindOf) rb [] (fun _ => none) (fun _ => none) (fun x v e => by simp at e) (fun x v e => by simp at e)
  obtain ⟨h₁, tk, hs₁⟩ := hin.toInCall.same
  have hR0 : R C zs ⟨bindV lv [], H⟩ z s₁ := by
    refine ⟨?_, ⟨_, hin.toInCall.ns, fun x v e k => hrepL x v e k⟩, fun x v e k => ?_, fun p hp => ?_, ?_, hfk⟩
    · rw [hs₁]
      exact rh.grow fun b o e => by
        have := hin.toInCall.keep b o e
        rw [hs₁] at this; exact this
    · obtain ⟨val, e1, r⟩ := hrepC x v e (fun q => by rw [q] at k; cases k)
      have hm := (bindV_mem lv [] e).resolve_right (by simp)
      have hk : sc.names.lookup x = some .cell := by
        rcases hnames x hm with q | q
        · have : cellish (sc.names.lookup x) = true := k
          rw [q] at this; cases this
        · exact q
      have hlk : (cellsFrom (s.heap.objs.size + 1) sc.names []).lookup x ≠ none := by
        have := PySem.W.cellsFrom_some (x := x) sc.names (s.heap.objs.size + 1) [] (.inl hk)
        intro q; rw [q] at this; cases this
      obtain ⟨c, hc⟩ := Option.ne_none_iff_exists'.mp hlk
      refine ⟨c, val, hc, ?_, r⟩
      have := hin.cell x c hc
      rw [show bindC C.env.kindOf binds (fun _ => none) x = some val from e1] at this
      exact this
    · have hlt := hin.above p.1 p.2 hp
      obtain ⟨q1, q2, q3⟩ := hnew p.2 (Nat.le_of_lt hlt)
      have hlk : (cellsFrom (s.heap.objs.size + 1) sc.names []).lookup p.1 = some p.2 :=
        lookup_of_mem (by rw [cellsFrom_keys sc.names _ 0 [] [] rfl]; exact F.nodup) hp
      exact ⟨⟨_, hin.cell _ _ hlk⟩, q1, .inl q2, Nat.ne_of_gt hlt, q3⟩
    · obtain ⟨q1, q2, q3⟩ := hnew s.heap.objs.size (Nat.le_refl _)
      exact ⟨q1, q2, q3⟩
  have hOwn : OwnFr C := ⟨by show (A.frames.map _) = _; rw [hfr]; rfl, rfl⟩
  refine wpAny_mono (h C hIn rfl hOwn z zs z s₁ (Z.le_refl _) hR0) ?_ ?_
  · rintro fl s2 ⟨z2, σ2, l2, R2, f, rf, q⟩
    cases rf with
    | ret r => exact hR _ _ ⟨z2, _, _, l2, R2.rh, r, q⟩
    | next => exact hR _ _ ⟨z2, _, _, l2, R2.rh, .none, q⟩
    | brk => exact hR _ _ ⟨z2, _, _, l2, R2.rh, .none, q⟩
    | cont => exact hR _ _ ⟨z2, _, _, l2, R2.rh, .none, q⟩
  · rintro e s2 ⟨z2, σ2, cls, fr, l2, R2, q, fl, x⟩
    have q' : C.A.frames = some (C.env :: outer) := by show (A.frames.map _) = _; rw [hfr]; rfl
    rw [q'] at q
    cases q
    exact leave_fly q' (L := C.env.locals) rfl fl R2.rh fun h' r' fl' => hR _ _ ⟨z2, σ2.H, cls, l2, r', fl', x⟩
theorem zip_names {ns : List Str} {vs : List V} {P : Str → Prop} (h : ∀ x ∈ ns, P x) : ∀ x ∈ (ns.zip vs).map (·.1), P x := fun x hx => by
  obtain ⟨p, hp, rfl⟩ := List.mem_map.mp hx
  exact h _ (zip_fst hp)
theorem CallT.defX {g : Gd} {n : Nat} {a : Addr} {fd : FuncData} {body : List Stmt} {sc : Scope} {params : List Str} {vs : List V} {Q : V → Led → Prop} {X : XL} {H : Led} (F : IsFn g a fd body sc params) (hlen : vs.length = params.length)
    (h : ∀ C : Cx, In C g n sc → C.ro = [] → OwnFr C → TSs C body (fun fl σ' => Q (match fl with | .ret v => v | _ => .none) σ'.H) (fun cls σ' => X cls σ'.H) ⟨bindV (params.zip vs) [], H⟩) : CallT g (n + 1) (.ref a) vs Q X H := by
  intro A outer zs z s xs hd hu hfr hh hfk rh rv
  obtain ⟨o, ho, hdata⟩ := F.b.at_
  refine codeAny_call_function (by show A.depth < 1000; (clear hdata ho o rv rh hfk hh hfr hu xs s z zs outer h hlen F H X Q sc body fd a g vs params; (first | lia | omega))) (rh.base _ _ ho) hdata (by rw [F.b.scope]; exact F.b.co) (by rw [F.b.scope]; exact F.b.gen) F.b.body (F.b.code.keeps rh.base) ?_
  rw [F.bind xs (by rw [rv.length, hlen])]
  exact wpAny_pure (enter_fn F.b hd hu hfr hh hfk rh (RepB.zip params rv) (zip_names F.names) (fun _ _ k => k) h)
theorem CallT.def_ {g : Gd} {n : Nat} {a : Addr} {fd : FuncData} {body : List Stmt} {sc : Scope} {params : List Str} {vs : List V} {Q : V → Led → Prop} {X : XL} {H : Led} (F : IsFn g a fd body sc params) (hlen : vs.length = params.length)
    (h : ∀ C : Cx, In C g n sc → C.ro = [] → TSs C body (fun fl σ' => Q (match fl with | .ret v => v | _ => .none) σ'.H) (fun cls σ' => X cls σ'.H) ⟨bindV (params.zip vs) [], H⟩) : CallT g (n + 1) (.ref a) vs Q X H := CallT.defX F hlen fun C a b _ => h C a b
theorem RepL.drop {z : Z} {vs : List V} {xs : List Value} (n : Nat) (h : RepL z vs xs) : RepL z (vs.drop n) (xs.drop n) := by
  refine h.ind (P := fun vs xs => ∀ n : Nat, RepL z (vs.drop n) (xs.drop n)) (fun n => ?_) (fun a t ih n => ?_) n
  · rw [List.drop_nil, List.drop_nil]; exact .nil
  · cases n with
    | zero => exact .cons a t
    | succ n => exact ih n
theorem CallT.defSX {g : Gd} {n : Nat} {a : Addr} {fd : FuncData} {body : List Stmt} {sc : Scope} {params : List Str} {star : Str} {vs : List V} {Q : V → Led → Prop} {X : XL} {H : Led} (F : IsFnS g a fd body sc params star) (hlen : params.length ≤ vs.length) (hsz : vs.length ≤ 16777216)
    (h : ∀ C : Cx, In C g n sc → C.ro = [] → OwnFr C → TSs C body (fun fl σ' => Q (match fl with | .ret v => v | _ => .none) σ'.H) (fun cls σ' => X cls σ'.H) ⟨bindV (params.zip vs ++ [(star, .tup (vs.drop params.length))]) [], H⟩) : CallT g (n + 1) (.ref a) vs Q X H := by
  intro A outer zs z s xs hd hu hfr hh hfk rh rv
  obtain ⟨o, ho, hdata⟩ := F.b.at_
  refine codeAny_call_function (by show A.depth < 1000; (clear hdata ho o rv rh hfk hh hfr hu xs s z zs outer h hsz hlen F H X Q star sc body fd a g vs params; (first | lia | omega))) (rh.base _ _ ho) hdata (by rw [F.b.scope]; exact F.b.co) (by rw [F.b.scope]; exact F.b.gen) F.b.body (F.b.code.keeps rh.base) ?_
  rw [F.bind xs (by rw [rv.length]; exact hlen)]
  have hl := rv.length
  refine wpAny_bind (wpAny_newTuple (wpAny_pure ?_) (by rw [List.length_drop]; exact size_ok (by (clear hdata ho o rv rh hfk hh hfr hu hd s z zs outer h F H X Q star sc body fd a g A n hlen; (first | lia | omega)))))
  have e : ({ s with heap := s.heap.push { cls := .type "tuple", data := .seq (xs.drop params.length).toArray } } : Shared).heap.get? s.heap.objs.size = some { cls := .type "tuple", data := .seq (xs.drop params.length).toArray } := Heap.get?_push_size _ rfl
  have r1 := rh.grow (t := s.toks) fun b o e => Heap.get?_push_of_some { cls := .type "tuple", data := .seq (xs.drop params.length).toArray } e
  have le := Z.le_put r1 e
  have r2 := r1.freeze e (rh.fresh_zs (Nat.le_refl _)) (rh.fresh_H (Nat.le_refl _))
  refine enter_fn F.b hd hu hfr hh hfk r2 ((RepB.zip params (rv.mono le)).append (.cons (.tup put_self ((rv.drop params.length).mono le)) .nil)) ?_ ?_ h
  · intro x hx
    rw [List.map_append] at hx
    rcases List.mem_append.mp hx with hx | hx
    · exact zip_names (P := fun x => sc.names.lookup x = some .local ∨ sc.names.lookup x = some .cell) (fun y hy => F.names y (List.mem_append_left _ hy)) x hx
    · exact F.names x (List.mem_append_right _ (by simpa using hx))
  · intro r s' k
    cases r with
    | error e => obtain ⟨z', H', cls, l, q⟩ := k; exact ⟨z', H', cls, Z.le_trans le l, q⟩
    | ok fl =>
      cases fl with
      | ret val => obtain ⟨z', H', v, l, q⟩ := k; exact ⟨z', H', v, Z.le_trans le l, q⟩
      | _ => exact k
theorem CallT.defS {g : Gd} {n : Nat} {a : Addr} {fd : FuncData} {body : List Stmt} {sc : Scope} {params : List Str} {star : Str} {vs : List V} {Q : V → Led → Prop} {X : XL} {H : Led} (F : IsFnS g a fd body sc params star) (hlen : params.length ≤ vs.length) (hsz : vs.length ≤ 16777216)
    (h : ∀ C : Cx, In C g n sc → C.ro = [] → TSs C body (fun fl σ' => Q (match fl with | .ret v => v | _ => .none) σ'.H) (fun cls σ' => X cls σ'.H) ⟨bindV (params.zip vs ++ [(star, .tup (vs.drop params.length))]) [], H⟩) : CallT g (n + 1) (.ref a) vs Q X H := CallT.defSX F hlen hsz fun C a b _ => h C a b
end PL

end
section
open PySem PySem.Calls PyProof.Rows
set_option Elab.async false
set_option linter.unusedVariables false
set_option linter.unusedSimpArgs false
namespace PL


section
variable {C : Cx} {zs z : Z} {σ : St} {s : Shared} {I : Addr} {o o' : Obj}

theorem put_le_of (hI : zs I = none) {b : Addr} {p : Obj} (h : zs b = some p) : zs.put I o b = some p := by
  unfold Z.put
  by_cases e : b = I
  · subst e; rw [hI] at h; cases h
  · rw [if_neg e]; exact h
theorem put_none {b : Addr} (h : zs.put I o b = none) : b ≠ I ∧ zs b = none := by
  unfold Z.put at h
  by_cases e : b = I
  · rw [if_pos e] at h; cases h
  · rw [if_neg e] at h; exact ⟨e, h⟩
theorem put_some {b : Addr} {p : Obj} (h : zs.put I o b = some p) (e : b ≠ I) : zs b = some p := by
  unfold Z.put at h; rw [if_neg e] at h; exact h
theorem FrOK.put {outer : List Env} (h : FrOK outer zs) (hI : zs I = none) : FrOK outer (zs.put I o) :=
  ⟨fun e he => let ⟨a, L, q, b, c, d⟩ := h.ok e he; ⟨a, L, q, b, put_le_of hI c, d⟩⟩

/-- the hidden object's own kind: no cell, no namespace -/
noncomputable def Stays (o : Obj) : Prop := (∀ ov, o.data ≠ .cell ov) ∧ ∀ vs ep, o.data ≠ .dict vs ep
theorem Stays.fields {o : Obj} {fs : Array Value} (h : o.data = .fields fs) : Stays o := ⟨fun _ e => (by rw [h] at e; cases e), fun _ _ e => (by rw [h] at e; cases e)⟩
theorem Stays.list (items : List Value) (n : Nat) : Stays (lstO items n) := ⟨fun _ e => (by cases e), fun _ _ e => (by cases e)⟩

theorem RH.hidden {g : Gd} {H : Led} (r : RH g zs H z s) (h : zs I = some o) (hs : Stays o) : s.heap.get? I = some o := by
  obtain ⟨sl, e, k⟩ := r.hzs _ _ h
  rw [e, k hs.2]
theorem R.hideAt (hR : R C zs σ z s) (e : s.heap.get? I = some o) (h0 : z I = none) (q : Apart C zs σ I) : R C (zs.put I o) σ z s where
  rh := {
    hz := hR.rh.hz
    hbase := hR.rh.hbase
    hzs := fun b p h => by
      by_cases hb : b = I
      · subst hb; rw [put_self] at h; cases h; exact ⟨o.slots, e, fun _ => rfl⟩
      · exact hR.rh.hzs b p (put_some h hb)
    disj := fun b p h => by
      by_cases hb : b = I
      · subst hb; exact h0
      · exact hR.rh.disj b p (put_some h hb)
    hH := fun p hp => let ⟨a, b, c⟩ := hR.rh.hH p hp; ⟨a, b, put_ne (fun w => q.2.2.1 (w ▸ List.mem_map_of_mem (f := (·.1)) hp)) c⟩
    nodup := hR.rh.nodup
    gens := hR.rh.gens
    os := hR.rh.os }
  ns := hR.ns
  cells := hR.cells
  cellsOk p hp := let ⟨a, b, c, d⟩ := hR.cellsOk p hp; ⟨a, b, c.imp (put_ne (q.2.2.2 p hp)) id, d⟩
  locFree := ⟨hR.locFree.1, put_ne (Ne.symm q.2.1) hR.locFree.2.1, hR.locFree.2.2⟩
  fr := hR.fr.put q.1

theorem R.apartHidC (hR : R C (zs.put I o) σ z s) (hI : zs I = none) (hs : ∀ ov, o.data ≠ .cell ov) : z I = none ∧ Apart C zs σ I := by
  refine ⟨hR.rh.disj _ _ put_self, hI, ?_, ?_, ?_⟩
  · exact Ne.symm (put_none hR.locFree.2.1).1
  · intro h
    obtain ⟨p, hp, e⟩ := List.mem_map.mp h
    exact (put_none (hR.rh.hH p hp).2.2).1 e
  · intro p hp e
    obtain ⟨⟨ov, oc, e1, e2⟩, _⟩ := hR.cellsOk p hp
    obtain ⟨sl, e3, _⟩ := hR.rh.hzs I o put_self
    rw [← e, e1] at e3
    have e4 : oc = { o with slots := sl } := Option.some.inj e3
    rw [e4] at e2
    exact hs ov e2
theorem R.apartHid (hR : R C (zs.put I o) σ z s) (hI : zs I = none) (hs : Stays o) : z I = none ∧ Apart C zs σ I := hR.apartHidC hI hs.1

/-- the hidden object has changed, and new objects may stand behind -/
theorem R.iter (hR : R C (zs.put I o) σ z s) (hI : zs I = none) (hfr : FrOK C.outer zs) (hs : Stays o) {h' : Heap} {t : Nat} (k : Heap.ExtBut I s.heap h') (e : h'.get? I = some o') :
    R C (zs.put I o') σ z { s with heap := h', toks := t } := by
  obtain ⟨h0, q1, q2, q3, q4⟩ := hR.apartHid hI hs
  have ne : ∀ b p, z b = some p → b ≠ I := fun b p hb w => by rw [w, h0] at hb; cases hb
  refine ⟨⟨fun b p hb => k b p (ne b p hb) (hR.rh.hz b p hb), hR.rh.hbase, fun b p hb => ?_, fun b p hb => ?_, fun p hp => ?_, hR.rh.nodup, hR.rh.gens, hR.rh.os⟩, ?_, fun x v h1 h2 => ?_, fun p hp => ?_, ?_, hfr.put hI⟩
  · by_cases hb' : b = I
    · subst hb'; rw [put_self] at hb; cases hb; exact ⟨o'.slots, e, fun _ => rfl⟩
    · obtain ⟨sl, a, c⟩ := hR.rh.hzs b p (put_le_of hI (put_some hb hb'))
      exact ⟨sl, k _ _ hb' a, c⟩
  · by_cases hb' : b = I
    · subst hb'; exact h0
    · exact hR.rh.disj b p (put_le_of hI (put_some hb hb'))
  · obtain ⟨a, b, c⟩ := hR.rh.hH p hp
    obtain ⟨c1, c2⟩ := put_none c
    exact ⟨a.keep fun o ho => k _ _ c1 ho, b, put_ne c1 c2⟩
  · obtain ⟨m, ⟨ol, es, ep, a, b, c⟩, d⟩ := hR.ns
    exact ⟨m, ⟨ol, es, ep, k _ _ (Ne.symm q2) a, b, c⟩, d⟩
  · obtain ⟨c, val, a, ⟨oc, b1, b2⟩, d⟩ := hR.cells x v h1 h2
    exact ⟨c, val, a, ⟨oc, k _ _ (q4 _ (mem_of_lookup a)) b1, b2⟩, d⟩
  · obtain ⟨⟨ov, oc, b1, b2⟩, b, c, d⟩ := hR.cellsOk p hp
    exact ⟨⟨ov, oc, k _ _ (q4 p hp) b1, b2⟩, b, c.imp (fun c => put_ne (q4 p hp) (put_none c).2) id, d⟩
  · exact ⟨hR.locFree.1, put_ne (Ne.symm q2) (put_none hR.locFree.2.1).2, hR.locFree.2.2⟩
theorem R.unhideC (hR : R C (zs.put I o) σ z s) (hI : zs I = none) (hfr : FrOK C.outer zs) (hs : ∀ ov, o.data ≠ .cell ov) {h' : Heap} {t : Nat} (k : Heap.ExtBut I s.heap h') : R C zs σ z { s with heap := h', toks := t } := by
  obtain ⟨h0, q1, q2, q3, q4⟩ := hR.apartHidC hI hs
  have ne : ∀ b p, z b = some p → b ≠ I := fun b p hb w => by rw [w, h0] at hb; cases hb
  have nes : ∀ b p, zs b = some p → b ≠ I := fun b p hb w => by rw [w, hI] at hb; cases hb
  refine ⟨⟨fun b p hb => k b p (ne b p hb) (hR.rh.hz b p hb), hR.rh.hbase, fun b p hb => ?_, fun b p hb => ?_, fun p hp => ?_, hR.rh.nodup, hR.rh.gens, hR.rh.os⟩, ?_, fun x v h1 h2 => ?_, fun p hp => ?_, ?_, hfr⟩
  · obtain ⟨sl, a, c⟩ := hR.rh.hzs b p (put_le_of hI hb)
    exact ⟨sl, k _ _ (nes b p hb) a, c⟩
  · exact hR.rh.disj b p (put_le_of hI hb)
  · obtain ⟨a, b, c⟩ := hR.rh.hH p hp
    obtain ⟨c1, c2⟩ := put_none c
    exact ⟨a.keep fun o ho => k _ _ c1 ho, b, c2⟩
  · obtain ⟨m, ⟨ol, es, ep, a, b, c⟩, d⟩ := hR.ns
    exact ⟨m, ⟨ol, es, ep, k _ _ (Ne.symm q2) a, b, c⟩, d⟩
  · obtain ⟨c, val, a, ⟨oc, b1, b2⟩, d⟩ := hR.cells x v h1 h2
    exact ⟨c, val, a, ⟨oc, k _ _ (q4 _ (mem_of_lookup a)) b1, b2⟩, d⟩
  · obtain ⟨⟨ov, oc, b1, b2⟩, b, c, d⟩ := hR.cellsOk p hp
    exact ⟨⟨ov, oc, k _ _ (q4 p hp) b1, b2⟩, b, c.imp (fun c => (put_none c).2) id, d⟩
  · exact ⟨hR.locFree.1, (put_none hR.locFree.2.1).2, hR.locFree.2.2⟩
theorem R.unhide (hR : R C (zs.put I o) σ z s) (hI : zs I = none) (hfr : FrOK C.outer zs) (hs : Stays o) {h' : Heap} {t : Nat} (k : Heap.ExtBut I s.heap h') : R C zs σ z { s with heap := h', toks := t } := hR.unhideC hI hfr hs.1 k
end

/-! walking over something -/
noncomputable def ownIters : List String := ["enumerate", "zip", "dict_itemiterator", "dict_reverseitemiterator", "odict_iterator", "itertools.zip_longest", "itertools.pairwise"]

structure WalkOf (g : Gd) (A : Around) (S : Z → Led → Prop) (vs : List V) (J : Nat → Obj → Prop) : Prop where
  fields : ∀ i o, J i o → ∃ fs, o.data = .fields fs
  cls : ∀ i o, J i o → ∃ T, o.cls = .type T ∧ ownIters.contains T = false
  self : ∀ (s : Shared) I o Q E, J 0 o → s.heap.get? I = some o → Q (.ref I) s → wpAny (model g.prog g.w) A (pyIter (.ref I)) Q E s
  item : ∀ zs z H (s : Shared) I o i v Q E, J i o → vs[i]? = some v → RH g zs H z s → S z H → s.heap.get? I = some o →
    (∀ h' t o' val, h'.get? I = some o' → J (i + 1) o' → Heap.SameBut I s.heap h' → Rep z v val → Q (some val) { s with heap := h', toks := t }) → wpAny (model g.prog g.w) A (pyNext (.ref I)) Q E s
  fin : ∀ zs z H (s : Shared) I o Q E, J vs.length o → RH g zs H z s → S z H → s.heap.get? I = some o →
    (∀ h', Heap.ExtBut I s.heap h' → Q none { s with heap := h' }) → wpAny (model g.prog g.w) A (pyNext (.ref I)) Q E s

structure Walk (C : Cx) (v : V) (vs : List V) (S : Led → Prop) : Prop where
  start : ∀ z₀ x, Rep z₀ v x → ∃ J, (∀ A', A'.handled = none → WalkOf C.g A' (fun z H => Z.le z₀ z ∧ S H) vs J) ∧ ∀ zs z σ (s : Shared) Q E, Z.le z₀ z → R C zs σ z s → S σ.H →
    (∀ o, J 0 o → o.isFreed = false → Q (.ref s.heap.objs.size) { s with heap := s.heap.push o }) → wpAny C.M C.A (pyIter x) Q E s

section
variable {C : Cx}
theorem isList_of {s : Shared} {a : Addr} {items : List Value} {n : Nat} (e : s.heap.get? a = some (lstO items n)) : s.heap.IsList a items.toArray := ⟨_, e, rfl, n, rfl⟩
theorem isTuple_of {s : Shared} {a : Addr} {items : List Value} {n : Nat} (e : s.heap.get? a = some (tupO items n)) : s.heap.IsTuple a items.toArray := ⟨_, e, rfl, n, rfl⟩

/-- the items at the address, as the state tells -/
noncomputable def ListAt (g : Gd) (a : Addr) (vs : List V) (S : Z → Led → Prop) : Prop := ∀ zs z H (s : Shared), RH g zs H z s → S z H → ∃ items n, s.heap.get? a = some (lstO items n) ∧ RepL z vs items
theorem getRep {z : Z} {vs : List V} {xs : List Value} (r : RepL z vs xs) {i : Nat} {v : V} (h : vs[i]? = some v) : ∃ x, xs.toArray[i]? = some x ∧ Rep z v x := by
  obtain ⟨x, a, b⟩ := r.get h; exact ⟨x, by simpa using a, b⟩
theorem getEnd {z : Z} {vs : List V} {xs : List Value} (r : RepL z vs xs) : xs.toArray[vs.length]? = none := by
  simp [r.length]
theorem walkOf_list {g : Gd} {A : Around} (hA : A.handled = none) {a : Addr} {vs : List V} {S : Z → Led → Prop} (k : ListAt g a vs S) :
    WalkOf g A S vs fun i o => o.cls = .type "list_iterator" ∧ o.data = .fields #[.ref a, .int (i : Int) 0] where
  fields i o h := ⟨_, h.2⟩
  cls i o h := ⟨_, h.1, by decide⟩
  self s I o Q E h e q := wpAny_pyIter_listiter (l := a) (i := 0) ⟨o, e, h.1, h.2⟩ q
  item zs z H s I o i v Q E h hv r st e q := by
    obtain ⟨items, n, e1, rl⟩ := k zs z H s r st
    obtain ⟨x, hx, rx⟩ := getRep rl hv
    refine wpAny_pyNext_list_item (l := a) (i := i) ⟨o, e, h.1, h.2⟩ (isList_of e1) hx fun h' hit hs => ?_
    obtain ⟨o', p1, p2, p3⟩ := hit
    exact q h' s.toks o' x p1 ⟨p2, p3⟩ hs rx
  fin zs z H s I o Q E h r st e q := by
    obtain ⟨items, n, e1, rl⟩ := k zs z H s r st
    exact wpAny_pyNext_list_end hA (l := a) (i := vs.length) ⟨o, e, h.1, h.2⟩ (isList_of e1) (getEnd rl) q
theorem Walk.lst {vs : List V} : Walk C (.lst vs) vs (fun _ => True) where
  start z₀ x r := by
    cases r with
    | @lst _ a items n e hr =>
      refine ⟨_, fun A' hA => walkOf_list hA (a := a) fun zs z H s rh st => ⟨items, n, rh.hz _ _ (st.1 _ _ e), hr.mono st.1⟩, fun zs z σ s Q E hz hR _ q => ?_⟩
      exact wpAny_pyIter_list (isList_of (hR.rh.hz _ _ (hz _ _ e))) (q _ ⟨rfl, rfl⟩ rfl)
theorem Walk.tup {vs : List V} : Walk C (.tup vs) vs (fun _ => True) where
  start z₀ x r := by
    cases r with
    | @tup _ a items n e hr =>
      refine ⟨fun i o => o.cls = .type "tuple_iterator" ∧ o.data = .fields #[.ref a, .int (i : Int) 0], fun A' hA => ⟨fun i o h => ⟨_, h.2⟩, fun i o h => ⟨_, h.1, by decide⟩, ?_, ?_, ?_⟩, fun zs z σ s Q E hz hR _ q => ?_⟩
      · exact fun s I o Q E h e q => wpAny_pyIter_tupleiter (t := a) (i := 0) ⟨o, e, h.1, h.2⟩ q
      · intro zs z H s I o i v Q E h hv rh st e' q
        obtain ⟨x, hx, rx⟩ := getRep (hr.mono st.1) hv
        refine wpAny_pyNext_tuple_item (t := a) (i := i) ⟨o, e', h.1, h.2⟩ (isTuple_of (rh.hz _ _ (st.1 _ _ e))) hx fun h' hit hs => ?_
        obtain ⟨o', p1, p2, p3⟩ := hit
        exact q h' s.toks o' x p1 ⟨p2, p3⟩ hs rx
      · intro zs z H s I o Q E h rh st e' q
        exact wpAny_pyNext_tuple_end hA (t := a) (i := vs.length) ⟨o, e', h.1, h.2⟩ (isTuple_of (rh.hz _ _ (st.1 _ _ e))) (getEnd hr) q
      · exact wpAny_pyIter_tuple (isTuple_of (hR.rh.hz _ _ (hz _ _ e))) (q _ ⟨rfl, rfl⟩ rfl)
theorem Walk.str {l : List Nat} : Walk C (.txt false l) (l.map fun c => .txt false [c]) (fun _ => True) where
  start z₀ x r := by
    have rq := r.e; clear r; obtain ⟨t, rfl⟩ := rq
    have hget : ∀ {i : Nat} {v : V}, (l.map fun c => V.txt false [c])[i]? = some v → ∃ c, l[i]? = some c ∧ v = .txt false [c] := by
      intro i v h
      rw [List.getElem?_map] at h
      cases e : l[i]? with
      | none => rw [e] at h; cases h
      | some c => rw [e] at h; cases h; exact ⟨c, rfl, rfl⟩
    cases ha : (l.toArray).all (· < 128) with
    | true =>
      refine ⟨fun i o => o.cls = .type "str_ascii_iterator" ∧ o.data = .fields #[.str ⟨l.toArray⟩ t, .int (i : Int) 0], fun A' hA => ⟨fun i o h => ⟨_, h.2⟩, fun i o h => ⟨_, h.1, by decide⟩, ?_, ?_, ?_⟩, fun zs z σ s Q E hz hR _ q => ?_⟩
      · exact fun s I o Q E h e q => wpAny_pyIter_striter_ascii (x := ⟨l.toArray⟩) (t := t) (i := 0) ⟨o, e, h.1, h.2⟩ q
      · intro zs z H s I o i v Q E h hv rh st e' q
        obtain ⟨c, hc, rfl⟩ := hget hv
        refine wpAny_pyNext_ascii_item (x := ⟨l.toArray⟩) (t := t) (i := i) (c := c) ⟨o, e', h.1, h.2⟩ (by simpa using hc) fun h' hit hs => ?_
        obtain ⟨o', p1, p2, p3⟩ := hit
        exact q h' _ o' _ p1 ⟨p2, p3⟩ hs (.str [c] _)
      · intro zs z H s I o Q E h rh st e' q
        exact wpAny_pyNext_ascii_end hA (x := ⟨l.toArray⟩) (t := t) ⟨o, e', h.1, h.2⟩ (by simp) q
      · exact wpAny_pyIter_ascii (x := ⟨l.toArray⟩) ha (q _ ⟨rfl, rfl⟩ rfl)
    | false =>
      refine ⟨fun i o => o.cls = .type "str_iterator" ∧ o.data = .fields #[.str ⟨l.toArray⟩ t, .int (i : Int) 0], fun A' hA => ⟨fun i o h => ⟨_, h.2⟩, fun i o h => ⟨_, h.1, by decide⟩, ?_, ?_, ?_⟩, fun zs z σ s Q E hz hR _ q => ?_⟩
      · exact fun s I o Q E h e q => wpAny_pyIter_striter_wide (x := ⟨l.toArray⟩) (t := t) (i := 0) ⟨o, e, h.1, h.2⟩ q
      · intro zs z H s I o i v Q E h hv rh st e' q
        obtain ⟨c, hc, rfl⟩ := hget hv
        refine wpAny_pyNext_wide_item (x := ⟨l.toArray⟩) (t := t) (i := i) (c := c) ⟨o, e', h.1, h.2⟩ (by simpa using hc) fun h' hit hs => ?_
        obtain ⟨o', p1, p2, p3⟩ := hit
        exact q h' _ o' _ p1 ⟨p2, p3⟩ hs (.str [c] _)
      · intro zs z H s I o Q E h rh st e' q
        exact wpAny_pyNext_wide_end hA (x := ⟨l.toArray⟩) (t := t) ⟨o, e', h.1, h.2⟩ (by simp) q
      · exact wpAny_pyIter_wide (x := ⟨l.toArray⟩) ha (q _ ⟨rfl, rfl⟩ rfl)
theorem small_range {a b : Int} (h1 : -1152921504606846976 ≤ a) (h2 : a ≤ 1152921504606846976) (h3 : -1152921504606846976 ≤ b) (h4 : b ≤ 1152921504606846976) : Builtin.Range.small a b 1 = true := by
  have hp : (2 : Int) ^ 63 = 9223372036854775808 := by decide
  have hr : 0 ≤ Builtin.Range.rangeSize a b 1 ∧ Builtin.Range.rangeSize a b 1 ≤ 9223372036854775807 := by
    simp only [Builtin.Range.rangeSize, Int.ediv_one]
    repeat' split
    all_goals (clear hp h3 h2; (first | lia | omega))
  obtain ⟨r1, r2⟩ := hr
  have f : ∀ x : Int, -9223372036854775808 ≤ x → x < 9223372036854775808 → Builtin.Range.rangeFitsLong x = true := by
    intro x p q
    unfold Builtin.Range.rangeFitsLong
    rw [hp]; simp [p, q]
  unfold Builtin.Range.small
  rw [f a (by (clear f r2 r1 hp h4 h3 b h2; (first | lia | omega))) (by (clear f r2 r1 hp h4 h3 b h1; (first | lia | omega))), f b (by (clear f r2 r1 hp h2 h1 a h4; (first | lia | omega))) (by (clear f r2 r1 hp h2 h1 a h3; (first | lia | omega))), f 1 (by (clear f r2 r1 hp h4 h3 h2 h1 b a; (first | lia | omega))) (by (clear f r2 r1 hp h4 h3 h2 h1 b a; (first | lia | omega))), f _ (by (clear f hp h4 h3 h2 h1 r2; (first | lia | omega))) (by (clear f hp h4 h3 h2 h1 r1; (first | lia | omega))), if_pos (by decide), f (b + (1 - 1)) (by (clear f r2 r1 hp h2 h1 a h4; (first | lia | omega))) (by (clear f r2 r1 hp h2 h1 a h3; (first | lia | omega)))]
  simp
noncomputable def upTo (a : Int) : Nat → List V
  | 0 => []
  | n + 1 => .int a :: upTo (a + 1) n
theorem upGet : ∀ (n : Nat) (a : Int) (i : Nat), (upTo a n)[i]? = if i < n then some (V.int (a + i)) else none
  | 0, a, i => by simp [upTo]
  | n + 1, a, 0 => by simp [upTo]
  | n + 1, a, i + 1 => by
    rw [upTo, List.getElem?_cons_succ, upGet n (a + 1) i]
    by_cases h : i < n
    · rw [if_pos h, if_pos (by (clear a; (first | lia | omega)))]; congr 2; push_cast; (clear h n; (first | lia | omega))
    · rw [if_neg h, if_neg (by (clear a; (first | lia | omega)))]
theorem upLen : ∀ (n : Nat) (a : Int), (upTo a n).length = n
  | 0, _ => rfl
  | n + 1, a => by simp [upTo, upLen n]
theorem Walk.rng {a b : Int} (hsm : Builtin.Range.small a b 1 = true) : Walk C (.rng a b 1) (upTo a (b - a).toNat) (fun _ => True) where
  start z₀ x r := by
    cases r with
    | @rng _ _ _ ad t u v e =>
      have hsz : Builtin.Range.rangeSize a b 1 = ((b - a).toNat : Int) := by
        simp only [Builtin.Range.rangeSize]
        repeat' split
        all_goals first | (clear e v u t ad z₀ hsm; (first | lia | omega)) | simp_all <;> (first | lia | omega)
      refine ⟨fun i o => o = { cls := .type "range_iterator", dict := none, data := .fields #[rawInt (a + i), rawInt ((b - a).toNat - (i : Int)), rawInt 1], slots := #[] }, fun A' hA => ⟨fun i o h => ⟨#[rawInt (a + i), rawInt ((b - a).toNat - (i : Int)), rawInt 1], by rw [h]⟩, fun i o h => ⟨"range_iterator", by rw [h], by decide⟩, ?_, ?_, ?_⟩, fun zs z σ s Q E hz hR _ q => ?_⟩
      · intro s I o Q E h e q
        subst h
        exact wpAny_pyIter_rangeiter e q
      · intro zs z H s I o i v Q E h hv rh st e' q
        subst h
        rw [upGet] at hv
        split at hv
        · rename_i hi
          cases hv
          refine wpAny_pyNext_range_item e' (by (clear q e' st rh E Q I s H z zs hA A' hsz e v u t ad z₀ hsm; (first | lia | omega))) fun h' hit hs => ?_
          refine q h' _ _ _ hit ?_ hs (.int _ _)
          have e1 : a + ((i + 1 : Nat) : Int) = a + i + 1 := by push_cast; (clear hs hit h' q hi e' st rh E Q I s H z zs hA A' hsz e v u t ad z₀ hsm b; (first | lia | omega))
          have e2 : ((b - a).toNat : Int) - ((i + 1 : Nat) : Int) = ((b - a).toNat - (i : Int)) - 1 := by push_cast; (clear e1 hs hit h' q hi e' st rh E Q I s H z zs hA A' hsz e v u t ad z₀ hsm; (first | lia | omega))
          rw [e1, e2]
        · cases hv
      · intro zs z H s I o Q E h rh st e' q
        subst h
        rw [upLen] at e'
        exact wpAny_pyNext_range_end hA e' (by (clear e' q st rh E Q I s H z zs hA A' hsz e v u t ad z₀ hsm; (first | lia | omega))) q
      · refine wpAny_pyIter_range (hR.rh.hz _ _ (hz _ _ e)) hsm (q _ ?_ rfl)
        rw [hsz]; simp [rawInt]
end
end PL

end
section
open PySem PySem.Calls PyProof.Rows
set_option Elab.async false
set_option linter.unusedVariables false
set_option linter.unusedSimpArgs false
namespace PL

noncomputable def Lo (L L' : List (Str × V)) : Prop := ∀ x v, L.lookup x = some v → L'.lookup x = some v
structure Le (σ σ' : St) : Prop where
  loc : Lo σ.loc σ'.loc
  led : σ.H.Sublist σ'.H
theorem Lo.refl (L : List (Str × V)) : Lo L L := fun _ _ h => h
theorem Lo.trans {a b c : List (Str × V)} (h : Lo a b) (k : Lo b c) : Lo a c := fun x v e => k x v (h x v e)
theorem Lo.set {L L' : List (Str × V)} {x : Str} {v : V} (h : Lo L L') : Lo (PL.setL L x v) (PL.setL L' x v) := by
  intro y u e
  rw [lookup_setL] at e ⊢
  by_cases k : y = x
  · rw [if_pos k] at e ⊢; exact e
  · rw [if_neg k] at e ⊢; exact h y u e
theorem Le.refl (σ : St) : Le σ σ := ⟨Lo.refl _, List.Sublist.refl _⟩
theorem Le.trans {a b c : St} (h : Le a b) (k : Le b c) : Le a c := ⟨h.loc.trans k.loc, h.led.trans k.led⟩
theorem TSs.le {C : Cx} {X : XP} {st : List Stmt} {Q : Fl → St → Prop} {σ σ' : St} (k : Le σ' σ) (h : TSs C st Q X σ') : TSs C st Q X σ := h.weaken k.loc k.led
theorem TE.le {C : Cx} {X : XP} {e : Expr} {Q : V → St → Prop} {σ σ' : St} (k : Le σ' σ) (h : TE C e Q X σ') : TE C e Q X σ := fun z₀ => (h z₀).weaken k.loc k.led
theorem TB.le {C : Cx} {X : XP} {e : Expr} {Q : Bool → St → Prop} {σ σ' : St} (k : Le σ' σ) (h : TB C e Q X σ') : TB C e Q X σ := fun z₀ => (h z₀).weaken k.loc k.led

/-- a target takes a value -/
noncomputable def TAs (C : Cx) (target : Expr) (v : V) (Q : St → Prop) (X : XP) (σ : St) : Prop := ∀ z₀ x, Rep z₀ v x → TT C z₀ (assign target C.env x) (fun _ _ σ' => Q σ') X σ
theorem TAs.name {C : Cx} {X : XP} {x : Str} {p : Pos} {v : V} {Q : St → Prop} {σ : St} (k : Stores C x) (h : Q ⟨setL σ.loc x v, σ.H⟩) : TAs C (.Name x p) v Q X σ := by
  intro z₀ val r
  rw [PySem.assign_Name]
  exact TT.at_ (TT.store k r fun _ _ => h)

theorem letOwned {M : Model} {A : Around} {E : Value → Shared → Prop} {target : Expr} {I : Addr} {v : Value} {s : Shared} {o : Obj} {Q : Unit → Shared → Prop} (e : s.heap.get? I = some o) (hc : ∃ T, o.cls = .type T ∧ ownIters.contains T = false) (h : Q () s) :
    wpAny M A (letOwnedTupleGo target (.ref I) v) Q E s := by
  obtain ⟨T, hT, hn⟩ := hc
  have go : ∀ a : Addr, wpAny M A (do
      let o ← load I
      match o.cls, o.data with
      | .type n, .fields vs =>
        if ["enumerate", "zip", "dict_itemiterator", "dict_reverseitemiterator", "odict_iterator", "itertools.zip_longest", "itertools.pairwise"].contains n && vs[0]? == some (rawInt a) then
          rule "for.unpacks-the-owned-tuple"
          updateField I 0 .none
      | _, _ => pure ()) Q E s := by
    intro a
    refine wpAny_bind (wpAny_load e ?_)
    rw [hT]
    obtain ⟨cls, dct, data, sl⟩ := o
    cases data with
    | fields vs =>
      have : (["enumerate", "zip", "dict_itemiterator", "dict_reverseitemiterator", "odict_iterator", "itertools.zip_longest", "itertools.pairwise"].contains T && vs[0]? == some (rawInt a)) = false := by
        rw [show ["enumerate", "zip", "dict_itemiterator", "dict_reverseitemiterator", "odict_iterator", "itertools.zip_longest", "itertools.pairwise"].contains T = false from hn]; rfl
      show wpAny M A (if _ = true then _ else _) Q E s
      rw [this]
      exact wpAny_pure h
    | _ => exact wpAny_pure h
  have key : wpAny M A (letOwnedTupleGo (.Tuple [] 0 default) (.ref I) v) Q E s := by
    cases v with
    | ref a => exact go a
    | _ => exact wpAny_pure h
  cases target with
  | Tuple ts k p => exact key
  | List ts p => exact key
  | _ => exact wpAny_pure h

section
variable {C : Cx} {X : XP} {σ : St}

noncomputable abbrev LoopQ (I : St → Prop) (Q : Fl → St → Prop) : Fl → St → Prop := fun f σ => match f with
  | .next => I σ
  | .cont => I σ
  | .brk => Q .next σ
  | .ret w => Q (.ret w) σ
inductive ForI (C : Cx) (zs z1 : Z) (I : Addr) (J : Nat → Obj → Prop) (Inv : Nat → St → Prop) (N n : Nat) (s' : Shared) : Prop
  | mk (i : Nat) (σ' : St) (z' : Z) (o : Obj) (hn : n = N - i) (hi : i ≤ N) (lz : Z.le z1 z') (r : R C (zs.put I o) σ' z' s') (hJ : J i o) (inv : Inv i σ')
inductive ForH (C : Cx) (target : Expr) (body orelse : List Stmt) (Q : Fl → St → Prop) (v : V) (σ1 : St) : Prop
  | mk (vs : List V) (S : Led → Prop) (w : Walk C v vs S) (Inv : Nat → St → Prop) (i0 : Inv 0 σ1) (iS : ∀ i σ, Inv i σ → S σ.H)
    (turn : ∀ i u σ, vs[i]? = some u → Inv i σ → TAs C target u (fun σ' => TSs C body (LoopQ (Inv (i + 1)) Q) X0 σ') X0 σ)
    (fin : ∀ σ, Inv vs.length σ → TSs C orelse Q X0 σ)
theorem TS.for_ {target iter : Expr} {body orelse : List Stmt} {pos : Pos} {Q : Fl → St → Prop} (hh : C.A.handled = none)
    (h : TE C iter (ForH C target body orelse Q) X σ)
    (hs : ∀ x, foldedSetIterable iter C.env x = pure x := by intro _; rfl) : TS C (.For target iter body orelse pos) Q X σ := by
  intro z₀ zs z s hz hR
  refine wpAny_For ?_ hs
  refine wpAny_mono (h z₀ zs z s hz hR) ?_ fun _ _ x => x
  rintro x s1 ⟨z1, σ1, l1, R1, v, rv, vs, S, W, Inv, i0, iS, turn, fin⟩
  obtain ⟨J, WO, st⟩ := W.start z1 x rv
  have WO := WO C.A hh
  refine st zs z1 σ1 s1 _ _ (Z.le_refl _) R1 (iS _ _ i0) fun o hJ hfr => ?_
  generalize hI : s1.heap.objs.size = I
  have zsI : zs I = none := R1.rh.fresh_zs (Nat.le_of_eq hI)
  have R2 : R C (zs.put I o) σ1 z1 { s1 with heap := s1.heap.push o } := by
    refine (R1.push' o).hideAt ?_ (R1.rh.fresh_z (Nat.le_of_eq hI)) (R1.apart_new (Nat.le_of_eq hI))
    rw [← hI]; exact Heap.get?_push_size _ hfr
  refine codeAny_loop' rfl (ForI C zs z1 I J Inv vs.length) (fun n s' hi => ?_) vs.length ⟨0, σ1, z1, o, rfl, Nat.zero_le _, Z.le_refl _, R2, hJ, i0⟩
  obtain ⟨i, σ', z', o', hn, hile, lz, R', hJ', inv⟩ := hi
  obtain ⟨fs, hfs⟩ := WO.fields _ _ hJ'
  have stay := Stays.fields hfs
  have hat := R'.rh.hidden put_self stay
  show wpAny _ _ ((forTurn target (.ref I) body orelse C.env).onRaise (fun x => do noteFrame x C.env; theTreesLotGoes x)) _ _ s'
  refine wpAny_noted ?_
  simp only [forTurn]
  refine wpAny_bind (wpAny_standAt (wpAny_bind (wpAny_onRaise ?_)))
  rcases Nat.lt_or_ge i vs.length with hlt | hge
  · have hv : vs[i]? = some vs[i] := List.getElem?_eq_getElem hlt
    refine WO.item _ _ _ s' I o' i vs[i] _ _ hJ' hv R'.rh ⟨lz, iS _ _ inv⟩ hat fun h' t o'' val e1 hJ'' hsb rv' => ?_
    have R'' : R C (zs.put I o'') σ' z' { s' with heap := h', toks := t } := R'.iter zsI hR.fr stay hsb.extBut e1
    refine wpAny_bind (letOwned e1 (WO.cls _ _ hJ'') ?_)
    refine wpAny_bind (wpAny_mono (turn i _ σ' hv inv z' val rv' _ _ _ (Z.le_refl _) R'') ?_ fun _ _ x => x.absurd)
    rintro ⟨⟩ s3 ⟨z3, σ3, l3, R3, k3⟩
    refine wpAny_bind (wpAny_mono (k3 z3 _ _ _ (Z.le_refl _) R3) ?_ fun _ _ x => x.absurd)
    rintro f s4 ⟨z4, σ4, l4, R4, fl, rf, k4⟩
    have lz' := Z.le_trans (Z.le_trans lz l3) l4
    obtain ⟨fs', hfs'⟩ := WO.fields _ _ hJ''
    have again : Inv (i + 1) σ4 → ∃ m, m < n ∧ ForI C zs z1 I J Inv vs.length m s4 :=
      fun k4 => ⟨vs.length - (i + 1), by omega, i + 1, σ4, z4, o'', rfl, by omega, lz', R4, hJ'', k4⟩
    have out := R4.unhide zsI hR.fr (Stays.fields hfs') (t := s4.toks) (h' := s4.heap) fun b o _ e => e
    cases rf with
    | next => exact wpAny_pure (.inl ⟨rfl, again k4⟩)
    | cont => exact wpAny_pure (.inl ⟨rfl, again k4⟩)
    | brk => exact wpAny_pure ⟨z4, σ4, Z.le_trans l1 lz', out, .next, .next, k4⟩
    | ret rw' => exact wpAny_pure ⟨z4, σ4, Z.le_trans l1 lz', out, .ret _, .ret rw', k4⟩
  · have he : i = vs.length := by omega
    subst he
    refine WO.fin _ _ _ s' I o' _ _ hJ' R'.rh ⟨lz, iS _ _ inv⟩ hat fun h' hx => ?_
    refine wpAny_pure (.inr ⟨rfl, codeAny_block ?_⟩)
    have R'' : R C zs σ' z' { s' with heap := h' } := R'.unhide zsI hR.fr stay hx
    refine wpAny_mono (fin σ' inv z' zs z' _ (Z.le_refl _) R'') ?_ fun _ _ x => x.absurd
    rintro f s4 ⟨z4, σ4, l4, R4, q⟩
    exact ⟨z4, σ4, Z.le_trans l1 (Z.le_trans lz l4), R4, q⟩

theorem TS.while_ {test : Expr} {body orelse : List Stmt} {pos : Pos} {Q : Fl → St → Prop} (Inv : Nat → St → Prop) (n : Nat) (i0 : Inv n σ)
    (turn : ∀ n σ, Inv n σ → TB C test (fun b σ' => if b then TSs C body (LoopQ (fun σ'' => ∃ m, m < n ∧ Inv m σ'') Q) X0 σ' else TSs C orelse Q X0 σ') X0 σ) :
    TS C (.While test body orelse pos) Q X σ := by
  intro z₀ zs z s hz hR
  refine wpAny_While ?_
  refine codeAny_whileLoop (fun n s' => ∃ σ' z', Z.le z z' ∧ R C zs σ' z' s' ∧ Inv n σ') (fun n s' hi => ?_) n ⟨σ, z, Z.le_refl _, hR, i0⟩
  obtain ⟨σ', z', lz, R', inv⟩ := hi
  refine wpAny_mono (turn n σ' inv z' zs z' s' (Z.le_refl _) R') ?_ fun _ _ x => x.absurd
  rintro b s2 ⟨z2, σ2, l2, R2, k⟩
  cases b with
  | true =>
    refine wpAny_mono (k z2 zs z2 s2 (Z.le_refl _) R2) ?_ fun _ _ x => x.absurd
    rintro f s4 ⟨z4, σ4, l4, R4, fl, rf, k4⟩
    have lz' := Z.le_trans (Z.le_trans lz l2) l4
    cases rf with
    | next => obtain ⟨m, hm, i⟩ := k4; exact ⟨m, hm, σ4, z4, lz', R4, i⟩
    | cont => obtain ⟨m, hm, i⟩ := k4; exact ⟨m, hm, σ4, z4, lz', R4, i⟩
    | brk => exact ⟨z4, σ4, lz', R4, .next, .next, k4⟩
    | ret rw' => exact ⟨z4, σ4, lz', R4, .ret _, .ret rw', k4⟩
  | false =>
    refine wpAny_mono (k z2 zs z2 s2 (Z.le_refl _) R2) ?_ fun _ _ x => x.absurd
    rintro f s4 ⟨z4, σ4, l4, R4, q⟩
    exact ⟨z4, σ4, Z.le_trans (Z.le_trans lz l2) l4, R4, q⟩
end
end PL

end
section
open PySem PySem.Calls PyProof.Rows
set_option Elab.async false
set_option linter.unusedVariables false
set_option linter.unusedSimpArgs false
namespace PL

noncomputable def relabelS (scope sc : Scope) : Scope :=
  { scope with names := scope.names.map fun (n, k) => if (k == .free && sc.kind == .function && sc.names.lookup n == some .cell) then (n, .cell) else (n, k) }
theorem relabel_eq {scope sc : Scope} {env : Env} (h : env.scope = sc) : relabel scope env = relabelS scope sc := by subst h; rfl

/-- the cells that a comprehension takes over -/
noncomputable def closOf : List (Str × NameKind) → List (Str × Addr) → List (Str × Addr) → List (Str × Addr)
  | [], _, acc => acc
  | (n, k) :: r, cells, acc => closOf r cells (if k == .free then (n, (cells.lookup n).getD 0) :: acc else acc)
theorem closureFor_closOf {scope : Scope} {env : Env} (h : ∀ x ∈ scope.names, x.2 = .free → ∃ c, env.cells.lookup x.1 = some c) : closureFor scope env = pure (closOf scope.names env.cells []) := by
  unfold closureFor
  have key : ∀ (l : List (Str × NameKind)) (acc : List (Str × Addr)), (∀ x ∈ l, x.2 = .free → ∃ c, env.cells.lookup x.1 = some c) →
      (forIn l acc fun x r => match x with | (name, kind) => if kind == .free then do let a ← cellOf env name; pure (ForInStep.yield ((name, a) :: r)) else pure (ForInStep.yield r) : Sem _) = pure (closOf l env.cells acc) := by
    intro l
    induction l with
    | nil => intro acc _; rfl
    | cons y r ih =>
      intro acc hl
      obtain ⟨n, k⟩ := y
      rw [List.forIn_cons]
      cases hk : (k == NameKind.free) with
      | true =>
        obtain ⟨c, hc⟩ := hl (n, k) List.mem_cons_self (by simpa using hk)
        have : cellOf env n = pure c := by unfold cellOf; rw [hc]
        simp only [hk, if_true, this, pure_bind]
        rw [ih _ fun x hx => hl x (List.mem_cons_of_mem _ hx)]
        simp [closOf, hk, hc]
      | false =>
        simp only [hk, Bool.false_eq_true, if_false, pure_bind]
        rw [ih _ fun x hx => hl x (List.mem_cons_of_mem _ hx)]
        simp [closOf, hk]
  have := key scope.names [] h
  simp only [bind_pure]
  exact this
theorem closOf_mem : ∀ (l : List (Str × NameKind)) (cells acc : List (Str × Addr)) (p : Str × Addr), p ∈ closOf l cells acc → p ∈ acc ∨ ((p.1, NameKind.free) ∈ l ∧ p.2 = (cells.lookup p.1).getD 0)
  | [], _, _, _, h => .inl h
  | (n, k) :: r, cells, acc, p, h => by
    unfold closOf at h
    rcases closOf_mem r cells _ p h with q | ⟨h1, h2⟩
    · cases hk : (k == NameKind.free) with
      | true =>
        rw [hk, if_pos rfl] at q
        have hk : k = .free := by simpa using hk
        subst hk
        rcases List.mem_cons.mp q with q | q
        · subst q; exact .inr ⟨List.mem_cons_self, rfl⟩
        · exact .inl q
      | false =>
        rw [hk, if_neg (by decide)] at q
        exact .inl q
    · exact .inr ⟨List.mem_cons_of_mem _ h1, h2⟩
theorem closOf_keep : ∀ (l : List (Str × NameKind)) (cells acc : List (Str × Addr)) (x : Str) (c : Addr), acc.lookup x = some c → x ∉ l.map (·.1) → (closOf l cells acc).lookup x = some c
  | [], _, _, _, _, h, _ => h
  | (n, k) :: r, cells, acc, x, c, h, hn => by
    rw [List.map_cons, List.mem_cons, not_or] at hn
    unfold closOf
    refine closOf_keep r cells _ x c ?_ hn.2
    split
    · rw [List.lookup_cons, beq_eq_false_iff_ne.mpr hn.1]; exact h
    · exact h
theorem closOf_lookup : ∀ (l : List (Str × NameKind)) (cells acc : List (Str × Addr)) (x : Str) (c : Addr), (l.map (·.1)).Nodup → (x, NameKind.free) ∈ l → cells.lookup x = some c → (closOf l cells acc).lookup x = some c
  | [], _, _, _, _, _, h, _ => by cases h
  | (n, k) :: r, cells, acc, x, c, hn, h, hc => by
    rw [List.map_cons, List.nodup_cons] at hn
    unfold closOf
    rcases List.mem_cons.mp h with h | h
    · cases h
      refine closOf_keep r cells _ _ c ?_ hn.1
      simp [hc]
    · exact closOf_lookup r cells _ x c hn.2 h hc
theorem closOf_pair : ∀ (l : List (Str × NameKind)) (cells acc : List (Str × Addr)), (l.map (·.1)).Nodup → acc.Pairwise (fun x y => x.1 ≠ y.1) → (∀ p ∈ acc, p.1 ∉ l.map (·.1)) → (closOf l cells acc).Pairwise (fun x y => x.1 ≠ y.1)
  | [], _, _, _, h, _ => h
  | (n, k) :: r, cells, acc, hn, h, hd => by
    rw [List.map_cons, List.nodup_cons] at hn
    unfold closOf
    refine closOf_pair r cells _ hn.2 ?_ ?_
    · split
      · refine List.pairwise_cons.mpr ⟨fun p hp e => hd p hp ?_, h⟩
        rw [List.map_cons, ← e]; exact List.mem_cons_self
      · exact h
    · intro p hp
      split at hp
      · rcases List.mem_cons.mp hp with e | hp
        · subst e; exact hn.1
        · exact fun q => hd p hp (by rw [List.map_cons]; exact List.mem_cons_of_mem _ q)
      · exact fun q => hd p hp (by rw [List.map_cons]; exact List.mem_cons_of_mem _ q)

section
variable {C : Cx} {zs z : Z} {σ : St} {s : Shared} {I : Addr} {o o' : Obj}
theorem RH.hideAt {g : Gd} {H : Led} (r : RH g zs H z s) (e : s.heap.get? I = some o) (h0 : z I = none) (h1 : zs I = none) (h2 : I ∉ H.map (·.1)) : RH g (zs.put I o) H z s where
  hz := r.hz
  hbase := r.hbase
  hzs b p h := by
    by_cases hb : b = I
    · subst hb; rw [put_self] at h; cases h; exact ⟨o.slots, e, fun _ => rfl⟩
    · exact r.hzs b p (put_some h hb)
  disj b p h := by
    by_cases hb : b = I
    · subst hb; exact h0
    · exact r.disj b p (put_some h hb)
  hH p hp := let ⟨a, b, c⟩ := r.hH p hp; ⟨a, b, put_ne (fun w => h2 (w ▸ List.mem_map_of_mem (f := (·.1)) hp)) c⟩
  nodup := r.nodup
  gens := r.gens
  os := r.os
theorem RH.unhide {g : Gd} {H : Led} (r : RH g (zs.put I o) H z s) (h1 : zs I = none) : RH g zs H z s where
  hz := r.hz
  hbase := r.hbase
  hzs b p h := r.hzs b p (put_le_of h1 h)
  disj b p h := r.disj b p (put_le_of h1 h)
  hH p hp := let ⟨a, b, c⟩ := r.hH p hp; ⟨a, b, (put_none c).2⟩
  nodup := r.nodup
  gens := r.gens
  os := r.os
theorem Z.put_comm {a b : Addr} (h : a ≠ b) (p q : Obj) : (zs.put a p).put b q = (zs.put b q).put a p := by
  funext c
  unfold Z.put
  by_cases h1 : c = b
  · subst h1; rw [if_pos rfl, if_neg (Ne.symm h), if_pos rfl]
  · rw [if_neg h1]
    by_cases h2 : c = a
    · rw [if_pos h2, if_pos h2]
    · rw [if_neg h2, if_neg h2, if_neg h1]

theorem R.frames (hR : R C zs σ z s) : ∃ fr, C.A.frames = some fr ∧ ∀ h : Heap, (∀ b o, s.heap.get? b = some o → h.get? b = some o) → FrOK fr (hid C zs h) := by
  have ho : ∀ h : Heap, (∀ b o, s.heap.get? b = some o → h.get? b = some o) → FrOK C.outer (hid C zs h) := by
    intro h hk
    refine ⟨fun e he => ?_⟩
    obtain ⟨a, L, o, b, c, d⟩ := hR.fr.ok e he
    have c' := hid_of hR c
    refine ⟨a, L, o, b, ?_, d⟩
    unfold hid at c' ⊢
    split at c'
    · rename_i hc; rw [if_pos hc]; exact hk _ _ c'
    · rename_i hc; rw [if_neg hc]; exact c'
  rcases C.hframes with ⟨a, b⟩ | a
  · refine ⟨_, a, fun h hk => ⟨fun e he => ?_⟩⟩
    rcases List.mem_cons.mp he with rfl | he
    · obtain ⟨m, ⟨oL, es, ep, hL, hdt, _⟩, _⟩ := hR.ns
      refine ⟨by rw [C.hk]; decide, _, oL, b, ?_, _, _, hdt⟩
      unfold hid; rw [if_pos (.inl rfl)]; exact hk _ _ hL
    · exact (ho h hk).ok e he
  · exact ⟨_, a, ho⟩
end

noncomputable def TIfs (C : Cx) (ifs : List Expr) (Q : Bool → St → Prop) (X : XP) (σ : St) : Prop := ∀ z₀, TT C z₀ (forIn ifs true fun c r => if r = true then do let ok ← isTrue c C.env (eval c C.env); pure (ForInStep.yield ok) else pure (ForInStep.yield r)) (fun _ b σ' => Q b σ') X σ
theorem TIfs.nil {C : Cx} {X : XP} {σ : St} {Q : Bool → St → Prop} (h : Q true σ) : TIfs C [] Q X σ := fun z₀ => TT.pure fun _ _ => h
theorem TIfs.one {C : Cx} {X : XP} {σ : St} {c : Expr} {Q : Bool → St → Prop} (h : TB C c Q X σ) : TIfs C [c] Q X σ := by
  intro z₀
  simp only [List.forIn_cons, List.forIn_nil, if_true]
  refine TT.bind (TT.bind (TT.mono (h z₀) fun z b σ' l k => ?_))
  exact TT.pure fun _ _ => TT.pure fun _ _ => k

/-- what one turn of a list comprehension adds -/
noncomputable def CTurn (C : Cx) (target : Expr) (ifs : List Expr) (elt : Expr) (u : V) (out : Option V) (X : XP) (σ : St) : Prop :=
  TAs C target u (fun σ1 => TIfs C ifs (fun ok σ2 => if ok then TE C elt (fun v σ3 => out = some v ∧ Le σ σ3) X σ2 else out = none ∧ Le σ σ2) X σ1) X σ

noncomputable def addO (l : List V) : Option V → List V
  | none => l
  | some v => l ++ [v]

structure CompOK (scope sc : Scope) : Prop where
  kind : scope.kind = .function
  nocell : ∀ x ∈ scope.names, x.2 ≠ .cell
  nodup : (scope.names.map (·.1)).Nodup
  free : ∀ x ∈ scope.names, x.2 = .free → sc.names.lookup x.1 = some .cell
  out : sc.kind = .function

theorem lookup_of_nodup {α β : Type} [BEq α] [LawfulBEq α] : ∀ {l : List (α × β)} {p : α × β}, (l.map (·.1)).Nodup → p ∈ l → l.lookup p.1 = some p.2
  | [], _, _, h => by cases h
  | (k, c) :: r, p, hn, h => by
    rw [List.map_cons, List.nodup_cons] at hn
    rw [List.lookup_cons]
    rcases List.mem_cons.mp h with e | h
    · subst e; simp
    · have : (p.1 == k) = false := beq_eq_false_iff_ne.mpr fun e => hn.1 (e ▸ List.mem_map_of_mem (f := (·.1)) h)
      rw [this]; exact lookup_of_nodup hn.2 h
theorem mem_of_lookup' {α β : Type} [BEq α] [LawfulBEq α] : ∀ {l : List (α × β)} {x : α} {b : β}, l.lookup x = some b → (x, b) ∈ l
  | [], _, _, h => by cases h
  | (k, c) :: r, x, b, h => by
    rw [List.lookup_cons] at h
    cases e : (x == k) with
    | true => rw [e] at h; cases h; rw [eq_of_beq e]; exact List.mem_cons_self
    | false => rw [e] at h; exact List.mem_cons_of_mem _ (mem_of_lookup' h)
theorem relabel_keys (scope sc : Scope) : (relabelS scope sc).names.map (·.1) = scope.names.map (·.1) := by
  unfold relabelS
  simp only [List.map_map]
  refine List.map_congr_left fun x _ => ?_
  obtain ⟨n, k⟩ := x
  simp only [Function.comp]
  split <;> rfl
theorem relabel_cell {scope sc : Scope} (K : CompOK scope sc) {x : Str} (h : (relabelS scope sc).names.lookup x = some .cell) : (x, NameKind.free) ∈ scope.names := by
  have := mem_of_lookup' h
  unfold relabelS at this
  obtain ⟨⟨n, k⟩, hp, e⟩ := List.mem_map.mp this
  simp only at e
  split at e
  · rename_i hc
    cases e
    simp only [Bool.and_eq_true, beq_iff_eq] at hc
    rw [← hc.1.1]; exact hp
  · cases e
    exact absurd rfl (K.nocell _ hp)
end PL

end
section
open PySem PySem.Calls PyProof.Rows
set_option Elab.async false
set_option linter.unusedVariables false
set_option linter.unusedSimpArgs false
namespace PL

theorem relabel_free {scope sc : Scope} (K : CompOK scope sc) {x : Str} (h : (x, NameKind.free) ∈ scope.names) : (relabelS scope sc).names.lookup x = some .cell := by
  have hm : (x, NameKind.cell) ∈ (relabelS scope sc).names := by
    unfold relabelS
    refine List.mem_map.mpr ⟨(x, .free), h, ?_⟩
    simp [K.out, K.free _ h rfl]
  exact lookup_of_nodup (p := (x, NameKind.cell)) (by rw [relabel_keys]; exact K.nodup) hm

theorem filterMap_take {α : Type} (f : α → Option V) (xs : List α) (i : Nat) (x : α) (h : xs[i]? = some x) : (xs.take (i + 1)).filterMap f = addO ((xs.take i).filterMap f) (f x) := by
  rw [List.take_add_one, h, List.filterMap_append]
  cases e : f x <;> simp [addO, e]

section
variable {C : Cx} {X : XP} {σ : St}

inductive CompI (C' : Cx) (zz z1 : Z) (I D : Addr) (J : Nat → Obj → Prop) (N : Nat) (F : Nat → List V) (σ0 : St) (m : Nat) (s' : Shared) : Prop
  | mk (i : Nat) (z' : Z) (σ' : St) (o : Obj) (items : List Value) (k : Nat) (hm : m = N - i) (hi : i ≤ N) (lz : Z.le z1 z') (r : R C' ((zz.put I o).put D (lstO items k)) σ' z' s') (le : Le σ0 σ') (hJ : J i o) (rl : RepL z' (F i) items)
inductive CompH (C : Cx) (g : Gd) (n : Nat) (sc scope : Scope) (target : Expr) (ifs : List Expr) (elt : Expr) (K : St → List V → Led → Prop) (v : V) (σ1 : St) : Prop
  | mk (α : Type) (xs : List α) (φ : α → V) (f : α → Option V) (L : List (Str × V)) (H0 : Led) (S : Led → Prop) (w : Walk C v (xs.map φ) S) (hS : ∀ H', H0.Sublist H' → S H') (hH : H0.Sublist σ1.H)
    (hL : ∀ x u, L.lookup x = some u → σ1.loc.lookup x = some u ∧ (x, NameKind.free) ∈ scope.names) (hl : xs.length ≤ 16777216)
    (turn : ∀ C', In C' g n (relabelS scope sc) → ∀ x ∈ xs, CTurn C' target ifs elt (φ x) (f x) X0 ⟨L, H0⟩) (k : K σ1 (xs.filterMap f) H0)
theorem TT.compCore {g : Gd} {n : Nat} {sc scope : Scope} {elt target iter : Expr} {ifs : List Expr} {pos : Pos} {z₀ : Z} {Q : Z → Value → St → Prop} {use : Option (Value → Sem Unit)} (hIn : In C g n sc) (K : CompOK scope sc)
    (h : TE C iter (CompH C g n sc scope target ifs elt fun σ1 ys H0 =>
      (∀ zs' z' s' a items k Lc oL, R C (zs'.put Lc oL) ⟨σ1.loc, H0⟩ z' s' → zs' Lc = none → FrOK C.outer zs' → (∀ ov, oL.data ≠ .cell ov) → (∃ m, s'.heap.Ns Lc m) → s'.heap.get? Lc = some oL → s'.heap.get? a = some (lstO items k) → z' a = none → Apart C (zs'.put Lc oL) ⟨σ1.loc, H0⟩ a → RepL z' (ys) items →
        ∀ (Qf : Value → Shared → Prop) E, (∀ v s'' z'' σ'', Z.le z' z'' → R C zs' σ'' z'' s'' → Q z'' v σ'' → Qf v s'') → compPost C.M C.A E use Qf (.ref a) Lc (.ok .next) s')) X σ)
    (hs : ∀ x, foldedSetIterable iter C.env x = Pure.pure x := by intro _; rfl) : TT C z₀ (comprehension (.ListComp elt [⟨target, iter, ifs, 0⟩] scope pos) scope C.env (firstIterPos [⟨target, iter, ifs, 0⟩] pos) (newList []) (firstAsync [⟨target, iter, ifs, 0⟩]) (firstIter [⟨target, iter, ifs, 0⟩] C.env) use) Q X σ := by
  intro zs z s hz hR
  have hclo : ∀ x ∈ scope.names, x.2 = .free → ∃ c, C.env.cells.lookup x.1 = some c := fun x hx hf => hIn.cell _ (K.free x hx hf)
  have hnames : ∀ x ∈ scope.names, x.2 = .local → scope.names.lookup x.1 = some .local := fun x hx hl => by rw [← hl]; exact lookup_of_nodup K.nodup hx
  refine wpAny_comprehension_free (g := ⟨target, iter, ifs, 0⟩) (gs := []) rfl hs (closureFor_closOf hclo) K.kind hnames ?_
  show wpAny _ _ (eval iter C.env) _ _ s
  refine wpAny_mono (h z₀ zs z s hz hR) ?_ fun _ _ x => x
  rintro x s1 ⟨z1, σ1, l1, R1, v, rv, α, xs, φ, f, L, H0, S, W, hS, hH0, hL, hlen, turn, fin⟩
  obtain ⟨J, WO, st⟩ := W.start z1 x rv
  have WO := WO C.A hIn.calm
  refine st zs z1 σ1 s1 _ _ (Z.le_refl _) R1 (hS _ hH0) fun o hJ hfr => ?_
  refine wpAny_newList ?_ (by simp)
  refine wpAny_newFunctionEnv K.nocell (by intro x hx; simp at hx) (fun h4 hns hsb => ?_) K.kind
  have szI : (s1.heap.push o).objs.size = s1.heap.objs.size + 1 := Heap.size_push ..
  have szD : ((s1.heap.push o).push { cls := .type "list", data := .seq ([] : List Value).toArray }).objs.size = s1.heap.objs.size + 2 := by rw [Heap.size_push, szI]
  dsimp only at hns hsb ⊢
  rw [szD] at hns hsb ⊢
  rw [szI]
  have lo : ∀ b o', b < s1.heap.objs.size + 2 → ((s1.heap.push o).push { cls := .type "list", data := .seq ([] : List Value).toArray }).get? b = some o' → h4.get? b = some o' := fun b o' hb e =>
    (hsb.2 b (Nat.ne_of_lt hb)).trans (Heap.get?_push_of_some _ e)
  have eI : h4.get? s1.heap.objs.size = some o := lo _ _ (by (first | lia | omega)) (Heap.get?_push_of_some _ (Heap.get?_push_size _ hfr))
  have eD : h4.get? (s1.heap.objs.size + 1) = some (lstO [] 0) := lo _ _ (by (first | lia | omega)) (by have := Heap.get?_push_size (h := s1.heap.push o) (o := lstO [] 0) rfl; rw [szI] at this; exact this)
  have old : ∀ b o', s1.heap.get? b = some o' → h4.get? b = some o' := fun b o' e => lo _ _ (Nat.lt_of_lt_of_le (Heap.lt_size e) (Nat.le_add_right _ 2)) (Heap.get?_push_of_some _ (Heap.get?_push_of_some _ e))
  have fz : ∀ a, s1.heap.objs.size ≤ a → z1 a = none := fun a ha => R1.rh.fresh_z ha
  have fa : ∀ a, s1.heap.objs.size ≤ a → Apart C zs ⟨σ1.loc, H0⟩ a := fun a ha => let ⟨a1, a2, a3, a4⟩ := R1.apart_new ha; ⟨a1, a2, fun e => a3 ((hH0.map _).subset e), a4⟩
  have R4 : R C zs ⟨σ1.loc, H0⟩ z1 { s1 with heap := h4, toks := s1.toks + ([] : List (Str × Value)).length } := (R1.grow old).weaken (fun _ _ h => h) hH0
  generalize hs4 : ({ s1 with heap := h4, toks := s1.toks + ([] : List (Str × Value)).length } : Shared) = s4 at R4 ⊢
  have hh4 : s4.heap = h4 := by rw [← hs4]
  generalize hLc : s1.heap.objs.size + 2 = Lc at *
  generalize hD : s1.heap.objs.size + 1 = D at *
  generalize hI : s1.heap.objs.size = I at *
  have hID : I ≠ D := by (first | lia | omega)
  have hIL : Lc ≠ I := by (first | lia | omega)
  have hDL : Lc ≠ D := by (first | lia | omega)
  obtain ⟨fr, hfrA, hfrOK⟩ := R4.frames
  have fr0 : FrOK fr (hid C zs s4.heap) := hfrOK _ fun _ _ e => e
  have hidn : ∀ a, I ≤ a → hid C zs s4.heap a = none := fun a ha => by
    obtain ⟨a1, a2, a3, a4⟩ := fa a ha
    exact hid_none a2 (fun e => by obtain ⟨p, hp, e⟩ := List.mem_map.mp e; exact a4 p hp e) a1
  have r0 := R4.hide
  have rI := r0.hideAt (by rw [hh4]; exact eI) (fz I (Nat.le_refl _)) (hidn I (Nat.le_refl _)) (fa I (Nat.le_refl _)).2.2.1
  have rD := rI.hideAt (by rw [hh4]; exact eD) (fz D (by (first | lia | omega))) (put_ne (Ne.symm hID) (hidn D (by (first | lia | omega)))) (fa D (by (first | lia | omega))).2.2.1
  let C' : Cx := {
    g := C.g, A := C.A, env := compEnvC scope (closOf scope.names C.env.cells []) Lc C.env, outer := fr, n := C.n
    ro := scope.names.map (·.1)
    hk := K.kind
    hglob := C.hglob, hbuilt := C.hbuilt, hdep := C.hdep, hunits := C.hunits, hframes := .inr hfrA
    apart := by
      have hp := closOf_pair scope.names C.env.cells [] K.nodup List.Pairwise.nil (fun _ h => by cases h)
      have hmem : ∀ p ∈ closOf scope.names C.env.cells [], p ∈ C.env.cells := by
        intro p hp
        rcases closOf_mem _ _ _ p hp with h | ⟨h1, h2⟩
        · cases h
        · obtain ⟨c, hc⟩ := hclo _ h1 rfl
          have hc : C.env.cells.lookup p.1 = some c := hc
          rw [hc] at h2
          have := mem_of_lookup' hc
          have e : p = (p.1, c) := by rw [← show p.2 = c from h2]
          rw [e]; exact this
      have : ∀ l : List (Str × Addr), l.Pairwise (fun x y => x.1 ≠ y.1) → (∀ p ∈ l, p ∈ C.env.cells) → l.Pairwise (fun x y => x.2 ≠ y.2) := by
        intro l hl hm
        refine List.Pairwise.imp_of_mem ?_ hl
        intro a b ha hb hab e
        refine hab (name_of_addr C.apart (c := b.2) ?_ (hm b hb))
        rw [← e]; exact hm a ha
      exact this _ hp hmem }
  have hcell' : ∀ p ∈ closOf scope.names C.env.cells [], (p.1, NameKind.free) ∈ scope.names ∧ p ∈ C.env.cells := by
    intro p hp
    rcases closOf_mem _ _ _ p hp with h | ⟨h1, h2⟩
    · cases h
    · obtain ⟨c, hc⟩ := hclo _ h1 rfl
      have hc : C.env.cells.lookup p.1 = some c := hc
      rw [hc] at h2
      have := mem_of_lookup' hc
      have e : p = (p.1, c) := by rw [← show p.2 = c from h2]
      exact ⟨h1, by rw [e]; exact this⟩
  have hIn' : In C' g n (relabelS scope sc) := ⟨hIn.g, hIn.n, fun x => by show (relabel scope C.env).names.lookup x = _; rw [relabel_eq hIn.fn], fun x hx => by
      have hm := relabel_cell K hx
      obtain ⟨c, hc⟩ := hclo _ hm rfl
      exact ⟨c, closOf_lookup _ _ _ _ _ K.nodup hm hc⟩, hIn.calm, relabel_eq hIn.fn, hIn.gl⟩
  have cellNe : ∀ p ∈ C.env.cells, p.2 < I := by
    intro p hp
    obtain ⟨⟨ov, ic⟩, _⟩ := R1.cellsOk p hp
    exact hI ▸ ic.lt
  have kindL : ∀ x u, L.lookup x = some u → C'.env.kindOf x = some .cell := fun x u hx => by
    rw [hIn'.kind]; exact relabel_free K (hL x u hx).2
  have R0 : R C' (((hid C zs s4.heap).put I o).put D (lstO [] 0)) ⟨L, H0⟩ z1 s4 := by
    refine ⟨rD, ⟨_, by rw [hh4]; exact hns, fun x u hx hk => ?_⟩, fun x u hx hk => ?_, fun p hp => ?_, ⟨fz _ (by show I ≤ Lc; (first | lia | omega)), put_ne hDL (put_ne hIL (hidn Lc (by (first | lia | omega)))), (fa Lc (by (first | lia | omega))).2.2.1⟩, ?_⟩
    · rw [kindL x u hx] at hk; cases hk
    · obtain ⟨h1, h2⟩ := hL x u hx
      have hk1 : C.env.kindOf x = some .cell := (hIn.kind x).trans (K.free _ h2 rfl)
      obtain ⟨c, val, e1, e2, e3⟩ := R4.cells x u h1 (by rw [hk1]; rfl)
      exact ⟨c, val, closOf_lookup _ _ _ _ _ K.nodup h2 e1, e2, e3⟩
    · obtain ⟨h1, h2⟩ := hcell' p hp
      obtain ⟨a, b, _, d, e⟩ := R4.cellsOk p h2
      exact ⟨a, b, .inr (List.mem_map_of_mem (f := (·.1)) h1), Nat.ne_of_lt (Nat.lt_of_lt_of_le (cellNe p h2) (show I ≤ Lc by (first | lia | omega))), e⟩
    · exact (fr0.put (hidn I (Nat.le_refl _))).put (put_ne (Ne.symm hID) (hidn D (by (first | lia | omega))))
  have hI0 := hidn I (Nat.le_refl _)
  have hD0 := hidn D (by (first | lia | omega))
  have loop : codeAny C.M C.A (.compLoop (.ListComp elt [⟨target, iter, ifs, 0⟩] scope pos) 0 (.ref I) (.ref D) C'.env)
      (compPost C.M C.A (PX C zs z X) use (Post C zs z Q) (.ref D) Lc) s4 := by
    generalize hRes : compPost C.M C.A (PX C zs z X) use (Post C zs z Q) (.ref D) Lc = Res
    refine codeAny_loop rfl (CompI C' (hid C zs s4.heap) z1 I D J xs.length (fun i => (xs.take i).filterMap f) ⟨L, H0⟩)
      (fun m s' hi => ?_) xs.length ⟨0, z1, _, o, [], 0, rfl, Nat.zero_le _, Z.le_refl _, R0, Le.refl _, hJ, by simpa using RepL.nil⟩
    obtain ⟨i, z', σ', o', items, k, hm, hile, lz, R', le', hJ', rl⟩ := hi
    obtain ⟨fs, hfs⟩ := WO.fields _ _ hJ'
    have stay := Stays.fields hfs
    show wpAny _ _ ((compTurn (.ListComp elt [⟨target, iter, ifs, 0⟩] scope pos) 0 (.ref I) (.ref D) C'.env).onRaise (fun x => do noteFrame x C'.env; theTreesLotGoes x)) _ _ s'
    refine wpAny_noted ?_
    rw [compTurn_list]
    have R1' : R C' (((hid C zs s4.heap).put D (lstO items k)).put I o') σ' z' s' := by rw [Z.put_comm (Ne.symm hID)]; exact R'
    have hat := R1'.rh.hidden put_self stay
    refine wpAny_bind (wpAny_standAt (wpAny_bind ?_))
    rcases Nat.lt_or_ge i xs.length with hlt | hge
    · have hx : xs[i]? = some xs[i] := List.getElem?_eq_getElem hlt
      have hv : (xs.map φ)[i]? = some (φ xs[i]) := by rw [List.getElem?_map, hx]; rfl
      refine WO.item _ _ _ s' I o' i _ _ _ hJ' hv R1'.rh ⟨lz, hS _ le'.led⟩ hat fun h' t o'' val e1 hJ'' hsb rv' => ?_
      have R2 := (R1'.iter (put_ne hID hI0) (fr0.put hD0) stay hsb.extBut e1 (t := t)).weaken (σ' := ⟨L, H0⟩) le'.loc le'.led
      refine wpAny_bind (letOwned e1 (WO.cls _ _ hJ'') ?_)
      refine wpAny_bind (wpAny_mono (turn C' hIn' _ (List.getElem_mem hlt) z' val rv' _ _ _ (Z.le_refl _) R2) ?_ fun _ _ x => x.absurd)
      rintro ⟨⟩ s3 ⟨z3, σ3, l3, R3, k3⟩
      refine wpAny_bind (wpAny_mono (k3 z3 _ _ _ (Z.le_refl _) R3) ?_ fun _ _ x => x.absurd)
      rintro ok s5 ⟨z5, σ5, l5, R5, k5⟩
      obtain ⟨fs', hfs'⟩ := WO.fields _ _ hJ''
      cases ok with
      | false =>
        obtain ⟨hout, hle⟩ := k5
        refine wpAny_pure ⟨rfl, xs.length - (i + 1), by (first | lia | omega), i + 1, z5, σ5, o'', items, k, rfl, by (first | lia | omega), Z.le_trans lz (Z.le_trans l3 l5), ?_, hle, hJ'', ?_⟩
        · rw [Z.put_comm hID]; exact R5
        · rw [filterMap_take f xs i _ hx, hout]; exact rl.mono (Z.le_trans l3 l5)
      | true =>
        refine wpAny_bind (wpAny_bind (wpAny_mono (k5 z5 _ _ _ (Z.le_refl _) R5) ?_ fun _ _ x => x.absurd))
        rintro y s6 ⟨z6, σ6, l6, R6, u, ru, hout, hle⟩
        have R6' : R C' (((hid C zs s4.heap).put I o'').put D (lstO items k)) σ6 z6 s6 := by rw [Z.put_comm hID]; exact R6
        have hatD := R6'.rh.hidden put_self (Stays.list items k)
        refine wpAny_bind (wpAny_list_append_plain (l := D) (items := items.toArray) ⟨k, hatD⟩ (fun h'' hpl hsb' => ?_) ?_)
        · obtain ⟨k', hk'⟩ := hpl
          have e2 : h''.get? D = some (lstO (items ++ [y]) k') := by rw [hk']; simp [lstO]
          have R7 := R6'.iter (o' := lstO (items ++ [y]) k') (put_ne (Ne.symm hID) hD0) (fr0.put hI0) (Stays.list items k) hsb'.extBut e2 (t := s6.toks)
          refine wpAny_pure (wpAny_pure ⟨rfl, xs.length - (i + 1), by (first | lia | omega), i + 1, z6, σ6, o'', items ++ [y], k', rfl, by (first | lia | omega), Z.le_trans lz (Z.le_trans l3 (Z.le_trans l5 l6)), R7, hle, hJ'', ?_⟩)
          rw [filterMap_take f xs i _ hx, hout]
          exact (rl.mono (Z.le_trans l3 (Z.le_trans l5 l6))).append (.cons ru .nil)
        · rw [List.size_toArray, rl.length, sizeLine_eq]
          have := List.length_filterMap_le f (xs.take i)
          have := List.length_take_le i xs
          (first | lia | omega)
    · have he : i = xs.length := by (first | lia | omega)
      subst he
      have hlenm : (xs.map φ).length = xs.length := List.length_map ..
      refine WO.fin _ _ _ s' I o' _ _ (by rw [hlenm]; exact hJ') R1'.rh ⟨lz, hS _ le'.led⟩ hat fun h' hx => ?_
      refine wpAny_pure ?_
      have R2 := R1'.unhide (put_ne hID hI0) (fr0.put hD0) stay hx (t := s'.toks)
      obtain ⟨ms, hms, _⟩ := R2.ns
      have hatD := R2.rh.hidden put_self (Stays.list items k)
      have rr : RH C.g (hid C zs s4.heap) σ'.H z' { s' with heap := h' } := R2.rh.unhide hD0
      have Rb := (R4.back lz rr).weaken (σ' := ⟨σ1.loc, H0⟩) (fun _ _ h => h) le'.led
      obtain ⟨oL, esL, epL, eL, dL, _⟩ := id hms
      have apL := fa Lc (by (first | lia | omega))
      have Rl := Rb.hideAt (I := Lc) (o := oL) eL R2.locFree.1 apL
      rw [List.take_length] at rl
      obtain ⟨d1, d2, d3, d4⟩ := fa D (by (first | lia | omega))
      subst hRes
      exact fin zs z' { s' with heap := h' } D items k Lc oL Rl apL.1 hR.fr (fun ov e => by rw [dL] at e; cases e) ⟨ms, hms⟩ eL hatD (R2.rh.disj _ _ put_self) ⟨put_ne (Ne.symm hDL) d1, d2, d3, d4⟩ rl _ _
        fun v s'' z'' σ'' lz'' R'' q => ⟨z'', σ'', Z.le_trans l1 (Z.le_trans lz lz''), R'', q⟩
  exact codeAny_compStart_list loop (WO.self s4 I o _ _ hJ (by rw [hh4]; exact eI) loop)

theorem TT.listcomp {g : Gd} {n : Nat} {sc scope : Scope} {elt target iter : Expr} {ifs : List Expr} {pos : Pos} {z₀ : Z} {Q : Z → Value → St → Prop} (hIn : In C g n sc) (K : CompOK scope sc)
    (h : TE C iter (CompH C g n sc scope target ifs elt fun σ1 ys H0 =>
      (∀ zs' z' s' a items k, R C zs' ⟨σ1.loc, H0⟩ z' s' → s'.heap.get? a = some (lstO items k) → z' a = none → Apart C zs' ⟨σ1.loc, H0⟩ a → RepL z' (ys) items →
        Post C zs' z' Q (.ref a) s')) X σ)
    (hs : ∀ x, foldedSetIterable iter C.env x = Pure.pure x := by intro _; rfl) : TT C z₀ (eval (.ListComp elt [⟨target, iter, ifs, 0⟩] scope pos) C.env) Q X σ := by
  rw [eval_ListComp]
  refine TT.compCore (use := none) hIn K (h.mono ?_) hs
  rintro v σ1 ⟨α, xs, φ, f, L, H0, S, h1, h2, h3, h4, h5, h6, h7⟩
  refine ⟨α, xs, φ, f, L, H0, S, h1, h2, h3, h4, h5, h6, ?_⟩
  intro zs' z' s' a items k Lc oL R' e1 e2 e3 e4 e5 e6 e7 e8 e9 Qf E hQ
  obtain ⟨m, hm⟩ := e4
  refine ⟨m, hm, fun h' hsb => ?_⟩
  have ne : a ≠ Lc := (put_none e8.1).1
  have R'' := R'.unhideC e1 e2 e3 (t := s'.toks) hsb.extBut
  obtain ⟨z'', σ'', lz, R3, q⟩ := h7 zs' z' { s' with heap := h' } a items k R'' ((hsb.2 a ne).trans e6) e7 ⟨(put_none e8.1).2, e8.2⟩ e9
  exact hQ _ _ z'' σ'' lz R3 q
/-- `x = [comp]`: the name takes the list while the comprehension's own names still stand -/
theorem TT.listcompU {g : Gd} {n : Nat} {sc scope : Scope} {elt target iter t : Expr} {ifs : List Expr} {pos : Pos} {z₀ : Z} {Q : St → Prop} (hIn : In C g n sc) (K : CompOK scope sc)
    (h : TE C iter (CompH C g n sc scope target ifs elt fun σ1 ys H0 =>
      (TAs C t (.lst (ys)) Q X0 ⟨σ1.loc, H0⟩ ∨ ∀ a, TAs C t (.ref a) Q X0 ⟨σ1.loc, (a, .list (ys)) :: H0⟩)) X σ)
    (hs : ∀ x, foldedSetIterable iter C.env x = Pure.pure x := by intro _; rfl) :
    TT C z₀ (comprehension (.ListComp elt [⟨target, iter, ifs, 0⟩] scope pos) scope C.env (firstIterPos [⟨target, iter, ifs, 0⟩] pos) (newList []) (firstAsync [⟨target, iter, ifs, 0⟩]) (firstIter [⟨target, iter, ifs, 0⟩] C.env) (some (assign t C.env))) (fun _ _ σ' => Q σ') X σ := by
  refine TT.compCore (use := some (assign t C.env)) hIn K (h.mono ?_) hs
  rintro v σ1 ⟨α, xs, φ, f, L, H0, S, h1, h2, h3, h4, h5, h6, h7⟩
  refine ⟨α, xs, φ, f, L, H0, S, h1, h2, h3, h4, h5, h6, ?_⟩
  intro zs' z' s' a items k Lc oL R' e1 e2 e3 e4 e5 e6 e7 e8 e9 Qf E hQ
  have key : ∀ (u : V) (σ2 : St) (z2 : Z), Z.le z' z2 → Rep z2 u (.ref a) → R C (zs'.put Lc oL) σ2 z2 s' → TAs C t u Q X0 σ2 → compPost C.M C.A E (some (assign t C.env)) Qf (.ref a) Lc (.ok .next) s' := by
    intro u σ2 z2 l2 ru R2 ht
    show wpAny _ _ (assign t C.env (.ref a)) _ _ s'
    refine wpAny_mono (ht z2 _ ru _ z2 s' (Z.le_refl _) R2) ?_ fun _ _ x => x.absurd
    rintro ⟨⟩ s'' ⟨z3, σ3, l3, R3, q⟩
    obtain ⟨m, hm⟩ := e4
    obtain ⟨sl, e10, _⟩ := R3.rh.hzs Lc oL put_self
    refine ⟨m, ns_slots hm (fun o ho => ?_), fun h' hsb => ?_⟩
    · rw [e5] at ho; cases ho; exact ⟨sl, e10⟩
    · exact hQ _ _ z3 σ3 (Z.le_trans l2 l3) (R3.unhideC e1 e2 e3 (t := s''.toks) hsb.extBut) q
  rcases h7 with h7 | h7
  · have l := Z.le_put R'.rh e6
    exact key (.lst (xs.filterMap f)) _ _ l (.lst put_self (e9.mono l)) (R'.freeze e6 e8) h7
  · exact key (.ref a) _ z' (Z.le_refl _) (.ref a) (R'.ledger (o := .list (xs.filterMap f)) ⟨items, k, e6, e9⟩ e7 e8) (h7 a)
end
end PL

end
section
open PySem PySem.Calls PyProof.Rows
set_option Elab.async false
set_option linter.unusedVariables false
set_option linter.unusedSimpArgs false
set_option maxRecDepth 100000
namespace PL

noncomputable def tyOf (o : Bool) : String := if o then "bytes" else "str"

namespace BF
theorem tyty (o : Bool) : typeOf (.type (tyOf o)) = pure (.type "type") := by cases o <;> kernel_rfl
theorem kind_isn : builtinKind "issubclass.nested" = none := by decide +kernel
theorem plain_isn : plainId "issubclass.nested" = true := by decide +kernel
theorem args_isn (a b c : Value) : argsOk "issubclass.nested" ⟨[a, b, c], []⟩ := by unfold argsOk; kernel_rfl
theorem sub_ss : isSubtype (.type "str") (.type "str") = pure true := by rw [isSubtype_type]; kernel_rfl
theorem sub_bs : isSubtype (.type "bytes") (.type "str") = pure false := by rw [isSubtype_type]; kernel_rfl
theorem sub_bb : isSubtype (.type "bytes") (.type "bytes") = pure true := by rw [isSubtype_type]; kernel_rfl
end BF

section
variable {C : Cx} {X : XP} {σ : St} {Q : V → St → Prop}

theorem txt_typeIs {z : Z} {o : Bool} {l : List Nat} {x : Value} (r : Rep z (.txt o l) x) (s : Shared) : s.TypeIs x (tyOf o) := by
  have rq := r.txt_; clear r; rcases rq with ⟨rfl, t, rfl⟩ | ⟨rfl, t, rfl, h⟩
  · exact typeIs_str _ _ _
  · exact PySem.W.typeIs_bytes _ _ _

theorem call_type {o : Bool} {l : List Nat} (h : Q (.con (.type (tyOf o))) σ) : CallV C (.type "type") [.txt o l] Q X σ := by
  refine CallV.toks fun z₀ zs z s xs hz hR r => ?_
  have rq := RepL.inv r; clear r; obtain ⟨_, _, rfl, r, t⟩ := rq
  cases t.inv0; clear t
  exact call_type_of (txt_typeIs r s) (by cases o <;> decide) (PVal.same hR (.con _) h)

section
variable {prog : Program} {w : World} {A : Around} {E : Value → Shared → Prop} {s : Shared}
theorem isn_one {T S : String} {b : Bool} {k : Value} {Q : Fin → Shared → Prop} (hk : ∃ n t, k = .int n t) (hs : isSubtype (.type T) (.type S) = pure b) (hS : typeOf (.type S) = pure (.type "type")) (hq : Q (.done (.ret (.bool b))) s) :
    wpAny (model prog w) A (Builtin.«issubclass.nested» ⟨[.type T, .type S, k], []⟩) Q E s := by
  obtain ⟨n, t, rfl⟩ := hk
  unfold Builtin.«issubclass.nested»
  refine wpAny_bind (m := typeOf (.type S)) (wpAny_of_eq hS ?_)
  show wpAny _ _ (if (Value.type "type" == Value.type "type") = true then _ else _) _ _ s
  rw [if_pos (by decide)]
  repeat (any_goals (first | assumption | (rw [hs]) | wp_step))
theorem isn_call {T S : String} {b : Bool} {Q : Value → Shared → Prop} (hs : isSubtype (.type T) (.type S) = pure b) (hS : typeOf (.type S) = pure (.type "type")) (hq : Q (.bool b) s) :
    wpAny (model prog w) A (call (.builtin "issubclass.nested") [.type T, .type S, rawInt (0 + 1)]) Q E s := by
  refine call_function_any BF.kind_isn BF.plain_isn F.entry_issubclass_nested (BF.args_isn _ _ _) ?_
  exact isn_one ⟨_, _, rfl⟩ hs hS hq

/-- is the class one of the two text classes -/
theorem isn_pair {o : Bool} {a : Addr} {n : Nat} {Q : Fin → Shared → Prop} (ho : s.heap.get? a = some (tupO [.type "str", .type "bytes"] n)) (hq : Q (.done (.ret (.bool true))) s) :
    wpAny (model prog w) A (Builtin.«issubclass.nested» ⟨[.type (tyOf o), .ref a, rawInt 0], []⟩) Q E s := by
  have hT : s.TypeIs (.ref a) "tuple" := ⟨_, ho, rfl⟩
  unfold Builtin.«issubclass.nested»
  refine wpAny_bind (m := typeOf (.ref a)) (wpAny_typeOf hT ?_)
  show wpAny _ _ (if (Value.type "tuple" == Value.type "type") = true then _ else _) _ _ s
  rw [if_neg (by decide)]
  refine wpAny_bind (m := Builtin.Builtins.unionMembers (.ref a)) ?_
  unfold Builtin.Builtins.unionMembers
  refine wpAny_bind (wpAny_typeOf hT ?_)
  rw [if_neg (by decide)]
  refine wpAny_pure ?_
  refine wpAny_bind (wpAny_isInstance hT sub_tuple_tuple ?_)
  rw [if_pos rfl]
  have key : wpAny (model prog w) A (do
      for c in (← seqItems? (.ref a)).getD #[] do
        if ← truthy (← call (.builtin "issubclass.nested") [.type (tyOf o), c, rawInt (0 + 1)]) then return ← ret (.bool true)
      return ← ret (.bool false)) Q E s := by
    refine wpAny_bind ?_
    unfold seqItems?
    refine wpAny_bind (wpAny_load ho (wpAny_pure ?_))
    simp only [Option.getD_some, List.forIn_toArray, List.forIn_cons, List.forIn_nil]
    cases o with
    | false =>
      refine wpAny_bind (wpAny_bind (wpAny_bind (isn_call BF.sub_ss (BF.tyty false) ?_)))
      refine wpAny_bind (wpAny_truthy_bool ?_)
      rw [if_pos rfl]
      repeat (any_goals (first | assumption | wp_step))
    | true =>
      refine wpAny_bind (wpAny_bind (wpAny_bind (isn_call BF.sub_bs (BF.tyty false) ?_)))
      refine wpAny_bind (wpAny_truthy_bool ?_)
      rw [if_neg Bool.false_ne_true]
      refine wpAny_pure ?_
      refine wpAny_bind (wpAny_bind (isn_call BF.sub_bb (BF.tyty true) ?_))
      refine wpAny_bind (wpAny_truthy_bool ?_)
      rw [if_pos rfl]
      repeat (any_goals (first | assumption | wp_step))
  exact key
theorem issub_pair {o : Bool} {a : Addr} {n : Nat} {Q : Value → Shared → Prop} (ho : s.heap.get? a = some (tupO [.type "str", .type "bytes"] n)) (hq : Q (.bool true) s) :
    wpAny (model prog w) A (call (.builtin "issubclass") [.type (tyOf o), .ref a]) Q E s := by
  refine call_function_any F.kind_issubclass F.plain_issubclass F.entry_issubclass (F.args_issubclass_2 _ _) ?_
  exact issubclass_outer (R := fun r s' => match r with | .ok (.ret v) => Q v s' | .ok _ => False | .error e => E e s') (isn_pair ho hq)
end
theorem call_issubclass_pair {o : Bool} (h : Q (.bool true) σ) : CallV C (.builtin "issubclass") [.con (.type (tyOf o)), .tup [.con (.type "str"), .con (.type "bytes")]] Q X σ := by
  refine CallV.toks fun z₀ zs z s xs hz hR r => ?_
  have rq := RepL.inv r; clear r; obtain ⟨_, _, rfl, r, t⟩ := rq
  have tq := RepL.inv t; clear t; obtain ⟨_, _, rfl, r2, t⟩ := tq
  cases t.inv0
  clear t
  have rq := r.e; clear r; obtain ⟨_, rfl⟩ := rq
  have r2q := r2.e; clear r2; obtain ⟨_, _, _, rfl, e, hr⟩ := r2q
  have hrq := RepL.inv hr; clear hr; obtain ⟨_, _, rfl, a, b⟩ := hrq
  cases a
  have bq := RepL.inv b; clear b; obtain ⟨_, _, rfl, a, b⟩ := bq
  cases a; cases b; exact issub_pair (hR.rh.hz _ _ e) (PVal.same hR (.bool true) h)
end
end PL

end
section
open PySem PySem.Calls PyProof.Rows
set_option Elab.async false
set_option linter.unusedVariables false
set_option linter.unusedSimpArgs false
set_option maxRecDepth 100000
namespace PL

section
variable {C : Cx} {X : XP} {σ : St} {Q : V → St → Prop}

theorem CallV.grown {Q : V → St → Prop} {zs z : Z} {s : Shared} (hR : R C zs σ z s) {v : V} {x : Value} {h' : Heap} {t : Nat} (k : ∀ b o, s.heap.get? b = some o → h'.get? b = some o) (r : Rep z v x) (h : Q v σ) :
    Post C zs z (PVal Q) x { s with heap := h', toks := t } := ⟨z, σ, Z.le_refl _, hR.grow k, v, r, h⟩

theorem call_isinstance_txt {o p : Bool} {l : List Nat} (h : Q (.bool (o == p)) σ) : CallV C (.builtin "isinstance") [.txt o l, .con (.type (tyOf p))] Q X σ := by
  refine CallV.toks fun z₀ zs z s xs hz hR r => ?_
  have rq := RepL.inv r; clear r; obtain ⟨_, _, rfl, r, t⟩ := rq
  have tq := RepL.inv t; clear t; obtain ⟨_, _, rfl, r2, t⟩ := tq
  cases t.inv0
  clear t
  have r2q := r2.e
  clear r2
  obtain ⟨_, rfl⟩ := r2q
  have rq := r.txt_; clear r; rcases rq with ⟨rfl, t, rfl⟩ | ⟨rfl, t, rfl, hl⟩
  · cases p with
    | false => exact PySem.IsiPair.str_str (PVal.same hR (.bool true) h)
    | true => exact PySem.IsiPair.str_bytes (PVal.toks hR (.bool false) h)
  · cases p with
    | false => exact call_isinstance (fun _ _ _ _ s hs => by
        obtain ⟨h, g, d, t, os⟩ := s
        exact isinstance_outer (isinstance_nested_false_bytes (by decide) (BF.tyty false) BF.sub_bs hs)) (S := fun _ R s => R (.ok (.ret (.bool false))) { s with toks := s.toks + 1 }) (PVal.toks hR (.bool false) h)
    | true => exact call_isinstance (isinstance_true (BF.tyty true) BF.sub_bb) ⟨PySem.W.typeIs_bytes _ _ _, PVal.same hR (.bool true) h⟩

theorem call_len_txt {o : Bool} {l : List Nat} (hn : l.length ≤ 16777216) (h : Q (.int l.length) σ) : CallV C (.builtin "len") [.txt o l] Q X σ := by
  refine CallV.toks fun z₀ zs z s xs hz hR r => ?_
  have rq := RepL.inv r; clear r; obtain ⟨_, _, rfl, r, t⟩ := rq
  cases t.inv0
  clear t
  have rq := r.txt_; clear r; rcases rq with ⟨rfl, t, rfl⟩ | ⟨rfl, t, rfl, hl⟩
  · exact P.len_str (by rw [strlen]; (clear t hR hz s z zs z₀ h; (first | lia | omega))) (PVal.toks hR (by rw [strlen]; exact .int _ _) h)
  · exact PySem.W.len_bytes (by simp; (clear hl t hR hz s z zs z₀ h; (first | lia | omega))) (PVal.toks hR (by simpa using Rep.int (l.length : Int) _) h)
theorem call_len_list {v : V} {vs : List V} (k : IsL σ v vs) (hn : vs.length ≤ 16777216) (h : Q (.int vs.length) σ) : CallV C (.builtin "len") [v] Q X σ := by
  refine CallV.toks fun z₀ zs z s xs hz hR r => ?_
  have rq := RepL.inv r; clear r; obtain ⟨_, _, rfl, r, t⟩ := rq
  cases t.inv0; clear t
  obtain ⟨a, items, rfl, p, q⟩ := k.at r (Z.le_refl _) hR
  have e : items.toArray.size = vs.length := by rw [List.size_toArray, q.length]
  exact PySem.Calls.call_len_list p (by rw [e]; (clear q p r a hR hz s z zs z₀ h k v e items; (first | lia | omega))) (PVal.toks hR (by rw [e]; exact .int _ _) h)
theorem call_ord {c : Nat} (h : Q (.int c) σ) : CallV C (.builtin "ord") [.txt false [c]] Q X σ := by
  refine CallV.toks fun z₀ zs z s xs hz hR r => ?_
  have rq := RepL.inv r; clear r; obtain ⟨_, _, rfl, r, t⟩ := rq
  cases t.inv0
  clear t
  have rq := r.e; clear r; obtain ⟨t, rfl⟩ := rq
  exact P.ord_of_char (PVal.toks hR (.int _ _) h)
theorem call_chr {i : Int} (h0 : 0 ≤ i) (h1 : i ≤ 1114111) (h : Q (.txt false [i.toNat]) σ) : CallV C (.builtin "chr") [.int i] Q X σ := by
  refine CallV.toks fun z₀ zs z s xs hz hR r => ?_
  have rq := RepL.inv r; clear r; obtain ⟨_, _, rfl, r, t⟩ := rq
  cases t.inv0
  clear t
  have rq := r.e; clear r; obtain ⟨t, rfl⟩ := rq
  exact P.chr_of_int (by simp; (clear t hR hz s z zs z₀ h; (first | lia | omega))) (PVal.toks hR (.str _ _) h)
theorem RepL.intItems {z : Z} {ns : List Int} : ∀ {xs : List Value}, RepL z (ns.map .int) xs → ∃ ps : List (Int × Tok), xs = ps.map (fun p => .int p.1 p.2) ∧ ps.map (·.1) = ns := by
  induction ns with
  | nil => intro xs r; exact ⟨[], r.inv0, rfl⟩
  | cons n ns ih =>
    intro xs r
    have rq := RepL.inv r; clear r; obtain ⟨_, _, rfl, r, t⟩ := rq
    obtain ⟨ps, rfl, rfl⟩ := ih t
    obtain ⟨tk, rfl⟩ := r.e
    exact ⟨(n, tk) :: ps, rfl, rfl⟩
theorem preSum_list (ps : List (Int × Tok)) : preSum (numAt ps.toArray) ps.toArray.size = (ps.map (·.1)).sum := by
  rw [preSum_eq, List.take_of_length_le (by simp)]
theorem call_sum {v : V} {ns : List Int} (hh : C.A.handled = none) (k : IsL σ v (ns.map .int)) (h : Q (.int ns.sum) σ) : CallV C (.builtin "sum") [v] Q X σ := by
  refine CallV.toks fun z₀ zs z s xs hz hR r => ?_
  have rq := RepL.inv r; clear r; obtain ⟨_, _, rfl, r, t⟩ := rq
  cases t.inv0; clear t
  obtain ⟨a, items, rfl, p, q⟩ := k.at r (Z.le_refl _) hR
  obtain ⟨ps, e1, e2⟩ := q.intItems
  have e3 : items.toArray = intItems ps.toArray := by rw [e1]; simp [PySem.intItems]
  rw [e3] at p
  refine sum_intListG hh p fun h' tk t' k => ?_
  rw [preSum_list, e2]
  exact CallV.grown hR k (.int _ _) h
theorem call_bytes {v : V} {ns : List Nat} (hh : C.A.handled = none) (k : IsL σ v (ns.map fun c : Nat => .int (c : Int))) (hr : ∀ c ∈ ns, c < 256) (hn : ns.length ≤ 16777216) (h : Q (.txt true ns) σ) :
    CallV C (.type "bytes") [v] Q X σ := by
  refine CallV.toks fun z₀ zs z s xs hz hR r => ?_
  have rq := RepL.inv r; clear r; obtain ⟨_, _, rfl, r, t⟩ := rq
  cases t.inv0; clear t
  obtain ⟨a, items, rfl, p, q⟩ := k.at r (Z.le_refl _) hR
  have q' : RepL z ((ns.map fun c : Nat => (c : Int)).map .int) items := by rw [List.map_map]; exact q
  obtain ⟨ps, e1, e2⟩ := q'.intItems
  have hi : ∀ ps : List (Int × Tok), IntsAre (ps.map fun p => .int p.1 p.2) (ps.map (·.1)) := by
    intro ps
    induction ps with
    | nil => exact .nil
    | cons p r ih => exact .cons _ _ ih
  subst e1
  refine call_bytes_ints p (hi ps) ?_ (by have := q'.length; rw [List.length_map, List.length_map] at this; rw [List.length_map] at this ⊢; rw [this]; exact size_ok hn) hh fun h' t k hk => ?_
  · rw [e2]
    intro n hn
    obtain ⟨c, hc, rfl⟩ := List.mem_map.mp hn
    have := hr c hc
    (first | lia | omega)
  · have : PySem.byteArr (ps.map (·.1)) = (ns.map UInt8.ofNat).toArray := by
      rw [e2]
      unfold PySem.byteArr
      rw [List.map_map]
      congr 1
    rw [this]
    exact CallV.grown hR hk (.bytes _ _ hr) h

theorem RepL.strItems {z : Z} {ns : List (List Nat)} : ∀ {xs : List Value}, RepL z (ns.map (.txt false)) xs → ∃ ps : List (Str × Tok), xs = strValues ps ∧ ps.map (·.1) = ns.map strOf := by
  induction ns with
  | nil => intro xs r; exact ⟨[], r.inv0, rfl⟩
  | cons n ns ih =>
    intro xs r
    have rq := RepL.inv r; clear r; obtain ⟨_, _, rfl, r, t⟩ := rq
    obtain ⟨ps, rfl, e2⟩ := ih t
    obtain ⟨tk, rfl⟩ := r.e
    exact ⟨(strOf n, tk) :: ps, rfl, by rw [List.map_cons, List.map_cons, e2]⟩
theorem joinFold (sep : Nat) : ∀ (ps : List (List Nat)) (acc : Nat), (ps.map strOf).foldl (fun a x => a + x.length + sep) acc = acc + (ps.map List.length).sum + ps.length * sep
  | [], acc => by simp
  | p :: r, acc => by
    rw [List.map_cons, List.foldl_cons, joinFold sep r, List.map_cons, List.sum_cons, List.length_cons, Nat.succ_mul]
    have : (strOf p).length = p.length := strlen
    rw [this]; (clear this; (first | lia | omega))
theorem call_join_str {sep : List Nat} {v : V} {ps : List (List Nat)} (k : IsL σ v (ps.map (.txt false))) (hn : (ps.map List.length).sum + ps.length * sep.length ≤ 16777216) (h : Q (.txt false (joinS sep ps)) σ) :
    CallV C (.builtin "str.join") [.txt false sep, v] Q X σ := by
  refine CallV.toks fun z₀ zs z s xs hz hR r => ?_
  have rq := RepL.inv r; clear r; obtain ⟨_, _, rfl, r, t⟩ := rq
  have tq := RepL.inv t; clear t; obtain ⟨_, _, rfl, r2, t⟩ := tq
  cases t.inv0; clear t
  obtain ⟨a, items, n, rfl, p, q⟩ := k.obj r2 (Z.le_refl _) hR
  have rq := r.e; clear r; obtain ⟨t, rfl⟩ := rq
  obtain ⟨l, e1, e2⟩ := q.strItems
  subst e1
  refine SC.join (D := a) (l := l) (texts := ps.map strOf) ⟨_, p, rfl, _, rfl⟩ e2 ?_ fun t' k' => ?_
  · unfold JoinOk
    rw [Bool.not_eq_true']
    show Builtin.Str.tooLong _ = false
    have := joinFold sep.length ps 0
    have e : ((ps.map strOf).toArray.foldl (fun x1 x2 => x1 + x2.length + (⟨sep.toArray⟩ : Str).length) 0) = 0 + (ps.map List.length).sum + ps.length * sep.length := by
      rw [List.foldl_toArray, strlen]; exact this
    rw [e]
    unfold Builtin.Str.tooLong
    rw [sizeLine_eq]
    simp; (clear e this q p e2 l t r2 n a hR hz s z zs z₀ h k v; (first | lia | omega))
  · have e : Txt.join ⟨sep.toArray⟩ (ps.map strOf) = strOf (joinS sep ps) := by
      rw [← str_join]; exact StrLaws.glued_eq_join _ _
    rw [e]
    exact PVal.toks hR (.str _ _) h
theorem call_join_bytes {sep : List Nat} {v : V} {ps : List (List Nat)} (k : IsL σ v (ps.map (.txt true))) (hn : (ps.map List.length).sum + ps.length * sep.length ≤ 16777216) (h : Q (.txt true (joinS sep ps)) σ) :
    CallV C (.builtin "bytes.join") [.txt true sep, v] Q X σ := by
  refine CallV.toks fun z₀ zs z s xs hz hR r => ?_
  have rq := RepL.inv r; clear r; obtain ⟨_, _, rfl, r, t⟩ := rq
  have tq := RepL.inv t; clear t; obtain ⟨_, _, rfl, r2, t⟩ := tq
  cases t.inv0; clear t
  obtain ⟨a, items, n, rfl, p, q⟩ := k.obj r2 (Z.le_refl _) hR
  have rq := r.e; clear r; obtain ⟨t, rfl, hs⟩ := rq
  have hj : (joinS sep ps).length ≤ 16777216 := by
    rw [joinS_length]
    have : sep.length * (ps.length - 1) ≤ ps.length * sep.length := by rw [Nat.mul_comm]; exact Nat.mul_le_mul_right _ (Nat.sub_le _ _)
    (clear hs t q p r2 n items a hR hz s z zs z₀ h k v; (first | lia | omega))
  refine call_meets BF.slot_join (PySem.W.typeIs_bytes _ _ _) BF.entry_join (BF.args_join _ _) (meets_bytes_join (n := n) q hs hj) ⟨p, fun t' k' => ?_⟩
  refine PVal.toks hR (.bytes _ _ fun c hc => ?_) h
  rcases joinS_mem hc with e | ⟨p', hp, e⟩
  · exact hs c e
  · obtain ⟨i, hi, e2⟩ := List.getElem_of_mem hp
    have hget : (ps.map (V.txt true))[i]? = some (.txt true p') := by rw [List.getElem?_map, List.getElem?_eq_getElem hi, e2]; rfl
    obtain ⟨x, _, rx⟩ := q.get hget
    have rxq := rx.e; clear rx; obtain ⟨_, rfl, hb⟩ := rxq
    exact hb c e
theorem call_join {o : Bool} {sep : List Nat} {v : V} {ps : List (List Nat)} (k : IsL σ v (ps.map (.txt o))) (hn : (ps.map List.length).sum + ps.length * sep.length ≤ 16777216) (h : Q (.txt o (joinS sep ps)) σ) :
    CallV C (.builtin (tyOf o ++ ".join")) [.txt o sep, v] Q X σ := by
  cases o
  · exact call_join_str k hn h
  · exact call_join_bytes k hn h
theorem call_range1 {n : Int} (h : Q (.rng 0 n 1) σ) : CallV C (.type "range") [.int n] Q X σ := by
  refine CallV.toks fun z₀ zs z s xs hz hR r => ?_
  have rq := RepL.inv r; clear r; obtain ⟨_, _, rfl, r, t⟩ := rq
  cases t.inv0
  clear t
  have rq := r.e; clear r; obtain ⟨t, rfl⟩ := rq
  refine call_range_1 ?_
  obtain ⟨R', l⟩ := hR.frozen { cls := .type "range", data := .fields #[.int 0 s.toks, .int n t, .int 1 (s.toks + 1)] } (s.toks + 1 + 1)
  exact ⟨_, _, l, R', _, .rng put_self, h⟩
theorem call_range2 {a b : Int} (h : Q (.rng a b 1) σ) : CallV C (.type "range") [.int a, .int b] Q X σ := by
  refine CallV.toks fun z₀ zs z s xs hz hR r => ?_
  have rq := RepL.inv r; clear r; obtain ⟨_, _, rfl, r, t⟩ := rq
  have tq := RepL.inv t; clear t; obtain ⟨_, _, rfl, r2, t⟩ := tq
  cases t.inv0
  clear t
  have rq := r.e; clear r; obtain ⟨t, rfl⟩ := rq
  have r2q := r2.e; clear r2; obtain ⟨u, rfl⟩ := r2q
  refine call_range_2 ?_
  obtain ⟨R', l⟩ := hR.frozen { cls := .type "range", data := .fields #[.int a t, .int b u, .int 1 s.toks] } (s.toks + 1)
  exact ⟨_, _, l, R', _, .rng put_self, h⟩
end
end PL

end
section
open PySem PySem.Calls PyProof.Rows
set_option Elab.async false
set_option linter.unusedVariables false
set_option linter.unusedSimpArgs false
set_option maxRecDepth 100000
namespace PL

section
variable {C : Cx} {X : XP} {σ : St}

theorem TE.listcompF {g : Gd} {n : Nat} {sc scope : Scope} {elt target iter : Expr} {ifs : List Expr} {pos : Pos} {Q : V → St → Prop} (hIn : In C g n sc) (K : CompOK scope sc)
    (h : TE C iter (CompH C g n sc scope target ifs elt fun σ1 ys H0 =>
      Q (.lst (ys)) ⟨σ1.loc, H0⟩) X σ)
    (hs : ∀ x, foldedSetIterable iter C.env x = pure x := by intro _; rfl) : TE C (.ListComp elt [⟨target, iter, ifs, 0⟩] scope pos) Q X σ := by
  intro z₀
  refine TT.listcomp hIn K (h.mono fun v σ1 ⟨α, xs, φ, f, L, H0, S, h1, h2, h3, h4, h5, h6, h7⟩ => ⟨α, xs, φ, f, L, H0, S, h1, h2, h3, h4, h5, h6, ?_⟩) hs
  intro zs' z' s' a items k R' e ez ap rl
  have l := Z.le_put R'.rh e
  exact ⟨_, _, l, R'.freeze e ap, _, .lst put_self (rl.mono l), h7⟩
theorem TS.expr {e : Expr} {pos : Pos} {Q : Fl → St → Prop} (h : TE C e (fun _ σ1 => Q .next σ1) X σ) (hs : swapsWith e none pos.line C.env = pure false := by rfl) : TS C (.Expr e pos) Q X σ := by
  intro z₀
  have hi : interactive C.env = false := by unfold interactive; rw [C.hk]; rfl
  rw [exec_Expr (env := C.env) e pos hi hs]
  refine TT.at_ (TT.bind (TT.mono (h z₀) ?_))
  rintro z v σ1 l ⟨_, _, q⟩
  intro zs z' s hz hR
  exact wpAny_dropValue ⟨z', σ1, Z.le_refl _, hR, .next, .next, q⟩

/-- reading `l[k]` -/
noncomputable def Get (C : Cx) (o i : V) (Q : V → St → Prop) (X : XP) (σ : St) : Prop := ∀ z₀ x y, Rep z₀ o x → Rep z₀ i y → TT C z₀ (getItem x y) (PVal Q) X σ
/-- setting `l[k]` -/
noncomputable def Put (C : Cx) (o i v : V) (Q : St → Prop) (X : XP) (σ : St) : Prop := ∀ z₀ x y u, Rep z₀ o x → Rep z₀ i y → Rep z₀ v u → TT C z₀ (setItem x y u) (fun _ _ σ' => Q σ') X σ
theorem Get.list {Q : V → St → Prop} {v : V} {vs : List V} {j : Nat} {u : V} (hl : IsL σ v vs) (hn : vs.length ≤ 16777216) (hu : vs[j]? = some u) (h : Q u σ) : Get C v (.int j) Q X σ := by
  intro z₀ x x0 rx w0 zs z s hz hR
  have w0q := w0.e; clear w0; obtain ⟨_, rfl⟩ := w0q
  obtain ⟨a, items, rfl, p, q⟩ := hl.at rx hz hR
  obtain ⟨xv, hx, r⟩ := q.get hu
  have hj := (List.getElem?_eq_some_iff.mp hu).1
  refine wpAny_getItem_list p (by (clear hj r hx xv q p rx items a hR hz s z zs z₀ h hu hn hl u v Q vs; (first | lia | omega))) (by (clear r hx xv q p rx items a hR hz s z zs z₀ h hu hl u v Q; (first | lia | omega))) (x := xv) ?_ (PVal.same hR r h)
  simpa using hx
theorem RepL.set {z : Z} {vs : List V} {xs : List Value} {v : V} {x : Value} (j : Nat) (h : RepL z vs xs) (r : Rep z v x) : RepL z (vs.set j v) (xs.set j x) := by
  refine h.ind (P := fun vs xs => ∀ j : Nat, RepL z (vs.set j v) (xs.set j x)) (fun n => .nil) (fun a t ih n => ?_) j
  cases n with
  | zero => exact .cons r t
  | succ n => exact .cons a (ih n)
theorem Put.led {Q : St → Prop} {a : Addr} {vs : List V} {j : Nat} {u : V} {H' : Led} (hu : Upd a (.list vs) (.list (vs.set j u)) σ.H H') (hn : vs.length ≤ 16777216) (hj : j < vs.length) (h : Q ⟨σ.loc, H'⟩) : Put C (.ref a) (.int j) u Q X σ := by
  intro z₀ x x0 uv rx w0 ru zs z s hz hR
  have w0q := w0.e; clear w0; obtain ⟨_, rfl⟩ := w0q
  have rxq := rx.e; clear rx; obtain ⟨_, rfl⟩ := rxq
  obtain ⟨⟨items, n, e, rl⟩, _⟩ := hR.rh.hH _ hu.mem
  have hlen := rl.length
  refine PySem.W.ki_setAt (items := items.toArray) (n := n) e (by (clear hlen rl e n hR hz s ru uv z₀ h hj hn hu H' u Q items; (first | lia | omega))) (by (clear rl e n hR hz s ru uv z₀ h hu H' u Q hlen items; (first | lia | omega))) (by simp; (clear rl e n hR hz s ru uv z₀ h hn hu H' u Q; (first | lia | omega))) ?_
  have e2 : (Obj.mapSeq (·.setIfInBounds (j : Int).toNat uv) (lstO items n)) = lstO (items.set j uv) n := by
    simp [Obj.mapSeq, lstO]
  refine ⟨z, _, Z.le_refl _, hR.upd hu (t := s.toks) (Heap.SameBut.update ..) ⟨items.set j uv, n, ?_, rl.set j (ru.mono hz)⟩, h⟩
  rw [Heap.get?_update_self _ e (by rw [e2]; rfl), e2]
end

/-! equality of plain data -/
mutual
noncomputable def toD : V → PyData
  | .none => .none
  | .bool b => .bool b
  | .int i => .int i
  | .txt _ l => .str ⟨l.toArray⟩
  | .tup vs => .tuple (toDs vs)
  | .lst vs => .list (toDs vs)
  | _ => .none
noncomputable def toDs : List V → List PyData
  | [] => []
  | v :: r => toD v :: toDs r
end
mutual
noncomputable def plainV : V → Bool
  | .none => true
  | .bool _ => true
  | .int _ => true
  | .txt o l => !o && l.all (· < 0x110000)
  | .tup vs => plainVs vs
  | .lst vs => plainVs vs
  | _ => false
noncomputable def plainVs : List V → Bool
  | [] => true
  | v :: r => plainV v && plainVs r
end
mutual
noncomputable def deepV : V → Nat
  | .tup vs => deepVs vs + 1
  | .lst vs => deepVs vs + 1
  | _ => 0
noncomputable def deepVs : List V → Nat
  | [] => 0
  | v :: r => max (deepV v) (deepVs r)
end
mutual
theorem reads_of {z : Z} {h : Heap} (k : ∀ b o, z b = some o → h.get? b = some o) : ∀ {v : V} {x : Value}, Rep z v x → plainV v = true → ∃ as, Reads h x (toD v) as
  | _, _, .none, _ => ⟨_, .none⟩
  | _, _, .bool b, _ => ⟨_, .bool b⟩
  | _, _, .int i t, _ => ⟨_, .int i t⟩
  | _, _, .str l t, _ => ⟨_, .str _ t⟩
  | _, _, .bytes l t _, e => by simp [plainV] at e
  | _, _, .tup e hr, p => let ⟨as, ra⟩ := reads_ofs k hr (by simpa [plainV] using p); ⟨_, .tuple (k _ _ e) rfl rfl (by simpa using ra)⟩
  | _, _, .lst e hr, p => let ⟨as, ra⟩ := reads_ofs k hr (by simpa [plainV] using p); ⟨_, .list (k _ _ e) rfl rfl (by simpa using ra)⟩
  | _, _, .ref a, p => by simp [plainV] at p
  | _, _, .con v, p => by simp [plainV] at p
  | _, _, .rng _, p => by simp [plainV] at p
  | _, _, .opq _ _, p => by simp [plainV] at p
theorem reads_ofs {z : Z} {h : Heap} (k : ∀ b o, z b = some o → h.get? b = some o) : ∀ {vs : List V} {xs : List Value}, RepL z vs xs → plainVs vs = true → ∃ as, ReadsAll h xs (toDs vs) as
  | _, _, .nil, _ => ⟨_, .nil⟩
  | v :: vs, _, .cons r t, p => by
    have p1 : plainV v = true ∧ plainVs vs = true := by simpa [plainVs] using p
    obtain ⟨as, ra⟩ := reads_of k r p1.1
    obtain ⟨bs, rb⟩ := reads_ofs k t p1.2
    exact ⟨_, .cons ra rb⟩
end
mutual
theorem canLay_of : ∀ {v : V}, plainV v = true → (toD v).canLay0 = true
  | .none, _ => rfl
  | .bool _, _ => rfl
  | .int _, _ => rfl
  | .txt o l, p => by simp [plainV] at p; simpa [toD, PyData.canLay0, PyData.strOk] using p.2
  | .tup vs, p => by simpa [toD, PyData.canLay0] using canLays_of (by simpa [plainV] using p)
  | .lst vs, p => by simpa [toD, PyData.canLay0] using canLays_of (by simpa [plainV] using p)
  | .ref _, p => by simp [plainV] at p
  | .con _, p => by simp [plainV] at p
  | .rng _ _ _, p => by simp [plainV] at p
  | .opq _, p => by simp [plainV] at p
theorem canLays_of : ∀ {vs : List V}, plainVs vs = true → PyData.canLayAll0 (toDs vs) = true
  | [], _ => rfl
  | v :: r, p => by
    have p1 : plainV v = true ∧ plainVs r = true := by simpa [plainVs] using p
    simp [toDs, PyData.canLayAll0, canLay_of p1.1, canLays_of p1.2]
end
mutual
theorem depth_of : ∀ (v : V), (toD v).depth = deepV v
  | .none => rfl
  | .bool _ => rfl
  | .int _ => rfl
  | .txt o l => rfl
  | .tup vs => by simp [toD, PyData.depth, deepV, depths_of vs]
  | .lst vs => by simp [toD, PyData.depth, deepV, depths_of vs]
  | .ref _ => rfl
  | .con _ => rfl
  | .rng _ _ _ => rfl
  | .opq _ => rfl
theorem depths_of : ∀ (vs : List V), PyData.depthAll (toDs vs) = deepVs vs
  | [] => rfl
  | v :: r => by simp [toDs, PyData.depthAll, deepVs, depth_of v, depths_of r]
end
section
variable {C : Cx} {X : XP} {σ : St} {Q : V → St → Prop}
end
end PL

end
section
open PySem PySem.W PySem.Calls PyProof.Rows
set_option Elab.async false
set_option linter.unusedVariables false
set_option linter.unusedSimpArgs false
set_option maxRecDepth 100000
namespace PL

noncomputable def recAt (p : Program) (i : Nat) : DefRec := match p.main.body[i]? with
  | some (.FunctionDef n a b _ _ _ sc _ _ pos) => ⟨n, a, b, sc, pos⟩
  | _ => ⟨default, { posonlyargs := [], args := [], vararg := none, kwonlyargs := [], kw_defaults := [], kwarg := none, defaults := [] }, [], default, default⟩
noncomputable abbrev bodyAt (p : Program) (i : Nat) : List Stmt := (recAt p i).body
noncomputable abbrev scAt (p : Program) (i : Nat) : Scope := (recAt p i).scope
noncomputable abbrev nameAt (p : Program) (i : Nat) : Str := (recAt p i).name
noncomputable abbrev parsAt (p : Program) (i : Nat) : List Str := (recAt p i).params.args.map (·.arg)

/-- the address holds the function of the text's statement i -/
noncomputable def Fn (g : Gd) (p : Program) (i : Nat) (a : Addr) : Prop := g.mg (nameAt p i) = some (.ref a) ∧ ∃ fd, IsFn g a fd (bodyAt p i) (scAt p i) (parsAt p i)
/-- a def with a starred parameter -/
noncomputable abbrev starAt (p : Program) (i : Nat) : Str := ((recAt p i).params.vararg.map (·.arg)).getD default
noncomputable def FnS (g : Gd) (p : Program) (i : Nat) (a : Addr) : Prop := g.mg (nameAt p i) = some (.ref a) ∧ ∃ fd, IsFnS g a fd (bodyAt p i) (scAt p i) (parsAt p i) (starAt p i)
/-- names of builtins that the text does not bind -/
noncomputable def Free (g : Gd) (bs : List Str) : Prop := ∀ x ∈ bs, g.mg x = none

section
variable {C : Cx} {X : XP} {σ : St} {Q : V → St → Prop} {g : Gd} {n : Nat} {sc : Scope}
theorem Fn.kept {g : Gd} {p : Program} {i : Nat} {a : Addr} (h : Fn g p i a) : Kept g (.ref a) :=
  let ⟨_, fd, F⟩ := h; let ⟨o, e, d⟩ := F.b.at_; .fn e d
theorem TE.callG (hIn : In C g n sc) {p : Program} {i : Nat} {a : Addr} {x : Str} {np pos : Pos} {args : List Expr} (hf : Fn g p i a) (hx : nameAt p i = x) (hl : sc.names.lookup x = some .globalImplicit)
    (h : TArgs C args (fun vs σ2 => CallV C (.ref a) vs Q X σ2) X σ) (hd : (x == ("__debug__" : Str)) = false := by decide +kernel)
    (hp : (backTo pos (starEach args C.env)).any (·.1) = false := by rfl)
    (he : eval (.Call (.Name x np) args [] pos) C.env = (do callWith pos (← eval (.Name x np) C.env) [] (backTo pos (starEach args C.env)) []) := by rfl) : TE C (.Call (.Name x np) args [] pos) Q X σ := by
  have hg := hIn.g
  subst hg
  exact TE.call (TE.name_glob ((hIn.kind x).trans hl) (hx ▸ hf.1) ⟨_, rfl, hf.kept, h⟩ hd) hp he
theorem FnS.kept {g : Gd} {p : Program} {i : Nat} {a : Addr} (h : FnS g p i a) : Kept g (.ref a) :=
  let ⟨_, fd, F⟩ := h; let ⟨o, e, d⟩ := F.b.at_; .fn e d
theorem TE.callS (hIn : In C g n sc) {p : Program} {i : Nat} {a : Addr} {x : Str} {np pos : Pos} {args : List Expr} (hf : FnS g p i a) (hx : nameAt p i = x) (hl : sc.names.lookup x = some .globalImplicit)
    (h : TArgs C args (fun vs σ2 => CallV C (.ref a) vs Q X σ2) X σ) (hd : (x == ("__debug__" : Str)) = false := by decide +kernel)
    (hp : (backTo pos (starEach args C.env)).any (·.1) = false := by rfl)
    (he : eval (.Call (.Name x np) args [] pos) C.env = (do callWith pos (← eval (.Name x np) C.env) [] (backTo pos (starEach args C.env)) []) := by rfl) : TE C (.Call (.Name x np) args [] pos) Q X σ := by
  have hg := hIn.g
  subst hg
  exact TE.call (TE.name_glob ((hIn.kind x).trans hl) (hx ▸ hf.1) ⟨_, rfl, hf.kept, h⟩ hd) hp he
theorem TE.callB (hIn : In C g n sc) {bs : List Str} {x : Str} {f : Value} {np pos : Pos} {args : List Expr} (hl : sc.names.lookup x = some .globalImplicit) (hfr : Free g bs) (hm : x ∈ bs) (hv : bootBuiltins x = some f)
    (kf : ∀ g, Kept g f) (h : TArgs C args (fun vs σ2 => CallV C f vs Q X σ2) X σ) (hd : (x == ("__debug__" : Str)) = false := by decide +kernel) (hn' : x ≠ "__name__" := by decide +kernel)
    (hp : (backTo pos (starEach args C.env)).any (·.1) = false := by rfl)
    (he : eval (.Call (.Name x np) args [] pos) C.env = (do callWith pos (← eval (.Name x np) C.env) [] (backTo pos (starEach args C.env)) []) := by rfl) : TE C (.Call (.Name x np) args [] pos) Q X σ := by
  have hg := hIn.g
  subst hg
  exact TE.call (TE.name_builtin ((hIn.kind x).trans hl) (hfr x hm) hv ⟨_, rfl, kf _, h⟩ hd hn') hp he
theorem TE.nameB (hIn : In C g n sc) {bs : List Str} {x : Str} {f : Value} {np : Pos} (hl : sc.names.lookup x = some .globalImplicit) (hfr : Free g bs) (hm : x ∈ bs) (hv : bootBuiltins x = some f)
    (h : Q (.con f) σ) (hd : (x == ("__debug__" : Str)) = false := by decide +kernel) (hn' : x ≠ "__name__" := by decide +kernel) : TE C (.Name x np) Q X σ := by
  have hg := hIn.g
  subst hg
  exact TE.name_builtin ((hIn.kind x).trans hl) (hfr x hm) hv h hd hn'
theorem TE.nameL (hIn : In C g n sc) {x : Str} {np : Pos} {v : V} (hl : sc.names.lookup x = some .local) (hv : σ.loc.lookup x = some v) (h : Q v σ) (hd : (x == ("__debug__" : Str)) = false := by decide +kernel) : TE C (.Name x np) Q X σ :=
  TE.name_local ((hIn.kind x).trans hl) hv h hd
theorem TE.nameC (hIn : In C g n sc) {x : Str} {np : Pos} {v : V} (hl : sc.names.lookup x = some .cell) (hv : σ.loc.lookup x = some v) (h : Q v σ) (hd : (x == ("__debug__" : Str)) = false := by decide +kernel) : TE C (.Name x np) Q X σ :=
  TE.name_cell ((hIn.kind x).trans hl) hv h hd
theorem In.stL (hIn : In C g n sc) {x : Str} (e : sc.names.lookup x = some .local) : Stores C x := .loc ((hIn.kind x).trans e)
theorem In.stC (hIn : In C g n sc) (hr : C.ro = []) {x : Str} (e : sc.names.lookup x = some .cell) : Stores C x :=
  let ⟨c, hc⟩ := hIn.cell x e; .cell c ((hIn.kind x).trans e) hc (by rw [hr]; exact List.not_mem_nil)
theorem CallV.fnI (hIn : In C g n sc) {a : Value} {vs : List V} {m : Nat} (h : CallT g m a vs (fun v H' => Q v ⟨σ.loc, H'⟩) (fun cls H' => X cls ⟨σ.loc, H'⟩) σ.H) (hm : m ≤ n) : CallV C a vs Q X σ := by
  have hg := hIn.g
  subst hg
  exact CallV.fn (by rw [hIn.n]; exact hm) hIn.calm h
end

theorem lk_hit {L : List (Str × V)} {x : Str} {v : V} : (setL L x v).lookup x = some v := by rw [lookup_setL, if_pos rfl]
theorem lk_miss {L : List (Str × V)} {x y : Str} {v u : V} (h : y ≠ x) (k : L.lookup y = some u) : (setL L x v).lookup y = some u := by rw [lookup_setL, if_neg h]; exact k
theorem Lo.nil {L : List (Str × V)} : Lo [] L := fun _ _ h => by cases h
theorem Lo.cons {L L' : List (Str × V)} {x : Str} {v : V} (h : L'.lookup x = some v) (t : Lo L L') : Lo ((x, v) :: L) L' := by
  intro y u e
  rw [List.lookup_cons] at e
  cases k : y == x with
  | true => rw [k] at e; cases e; rw [eq_of_beq k]; exact h
  | false => rw [k] at e; exact t y u e
/-- where a name stands: tells the value, proves nothing (the kernel looks it up) -/
noncomputable def Find (_ : List (Str × V)) (_ : Str) (_ : V) : Prop := True
theorem Find.hit {L : List (Str × V)} {x : Str} {v : V} : Find (setL L x v) x v := trivial
theorem Find.hd {L : List (Str × V)} {x : Str} {v : V} : Find ((x, v) :: L) x v := trivial
theorem Find.miss {L : List (Str × V)} {x y : Str} {v u : V} (_ : Find L y u) : Find (setL L x v) y u := trivial
theorem Find.tl {L : List (Str × V)} {x y : Str} {v u : V} (_ : Find L y u) : Find ((x, v) :: L) y u := trivial
noncomputable abbrev Ig {L : List (Str × V)} {x : Str} {v : V} (_ : Find L x v) : Prop := L.lookup x = some v
noncomputable abbrev leA (n : Nat) (p : Prop) : Prop := n ≤ 16777216 ∧ p
theorem leAnd {n : Nat} {p : Prop} (h : n ≤ 16777216) (k : p) : leA n p := ⟨h, k⟩
theorem Kept.biA {id : String} : ∀ g, Kept g (.builtin id) := fun _ => .bi _
theorem Kept.tyA {id : String} : ∀ g, Kept g (.type id) := fun _ => .ty _
noncomputable def loF (L' : List (Str × V)) (L : List (Str × V)) : List (Option V) := L.foldr (fun p a => L'.lookup p.1 :: a) []
noncomputable def svF (L : List (Str × V)) : List (Option V) := L.foldr (fun p a => some p.2 :: a) []
theorem Lo.of {L L' : List (Str × V)} (h : loF L' L = svF L) : Lo L L' := by
  induction L with
  | nil => exact Lo.nil
  | cons p r ih =>
    injection h with h1 h2
    exact Lo.cons h1 (ih h2)
theorem lf_of {L L' : List (Str × V)} {names : List (Str × NameKind)} (h : loF L' L = svF L) (hm : L.foldr (fun p a => decide ((p.1, NameKind.free) ∈ names) && a) true = true) :
    ∀ y u, List.lookup y L = some u → L'.lookup y = some u ∧ (y, NameKind.free) ∈ names := by
  intro y u e
  refine ⟨Lo.of h y u e, ?_⟩
  clear h
  induction L with
  | nil => cases e
  | cons p r ih =>
    simp only [List.foldr_cons, Bool.and_eq_true, decide_eq_true_eq] at hm
    rw [List.lookup_cons] at e
    cases k : y == p.1 with
    | true => rw [eq_of_beq k]; exact hm.1
    | false => rw [k] at e; exact ih hm.2 e

section
variable {C : Cx} {X : XP} {σ : St} {Q : V → St → Prop}
theorem TE.str {x : Str} {l : List Nat} {k : Nat} {p : Pos} (e : x.cps.toList = l) (h : Q (.txt false l) σ) : TE C (.Constant (.str x) k p) Q X σ := TE.const_str (by rw [e]; exact h)
theorem TE.byt {b : List UInt8} {l : List Nat} {k : Nat} {p : Pos} (e : b.map UInt8.toNat = l) (h : Q (.txt true l) σ) : TE C (.Constant (.bytes b) k p) Q X σ := TE.const_bytes (by rw [e]; exact h)

theorem Meth.rfind {o : Bool} {l : List Nat} : Meth C σ (.txt o l) "rfind" (tyOf o ++ ".rfind") := by
  cases o
  · exact Meth.str PySem.F.slot_str_rfind PySem.F.type_str_rfind
  · exact Meth.bytes BF.slot_rfind BF.type_rfind
theorem Meth.rstrip {o : Bool} {l : List Nat} : Meth C σ (.txt o l) "rstrip" (tyOf o ++ ".rstrip") := by
  cases o
  · exact Meth.str PySem.F.slot_str_rstrip PySem.F.type_str_rstrip
  · exact Meth.bytes BF.slot_rstrip BF.type_rstrip
theorem Meth.join {o : Bool} {l : List Nat} : Meth C σ (.txt o l) "join" (tyOf o ++ ".join") := by
  cases o
  · exact Meth.str PySem.F.slot_str_join PySem.F.type_str_join
  · exact Meth.bytes BF.slot_join BF.type_join
theorem Meth.split {o : Bool} {l : List Nat} : Meth C σ (.txt o l) "split" (tyOf o ++ ".split") := by
  cases o
  · exact Meth.str PySem.F.slot_str_split PySem.F.type_str_split
  · exact Meth.bytes BF.slot_split BF.type_split
theorem call_rfind {o : Bool} {l : List Nat} {c : Nat} (h : Q (.int ((cut c l : Int) - 1)) σ) : CallV C (.builtin (tyOf o ++ ".rfind")) [.txt o l, .txt o [c]] Q X σ := by
  cases o
  · exact call_rfind_str h
  · exact call_rfind_bytes h
theorem call_rstrip {o : Bool} {l : List Nat} {c : Nat} (hn : l.length ≤ 16777216) (h : Q (.txt o (rstripS c l)) σ) : CallV C (.builtin (tyOf o ++ ".rstrip")) [.txt o l, .txt o [c]] Q X σ := by
  cases o
  · exact call_rstrip_str hn h
  · exact call_rstrip_bytes hn h
theorem TE.rfind (o : Bool) {e : Expr} {args : List Expr} {apos pos : Pos} (h : TE C e (fun ov σ1 => ∃ l, ov = .txt o l ∧ TArgs C args (fun vs σ2 => ∃ c, vs = [.txt o [c]] ∧ Q (.int ((cut c l : Int) - 1)) σ2) X σ1) X σ)
    (hp : (backTo pos (starEach args C.env)).any (·.1) = false := by rfl) (hb : attributeBase e "rfind" C.env (eval e C.env) = eval e C.env := by rfl)
    (hf : methodCallForm (args.length + 0) (backTo pos (starEach args C.env)) [] = true := by rfl) (hl : (apos.endLine == pos.line) = true := by rfl) : TE C (.Call (.Attribute e "rfind" apos) args [] pos) Q X σ := by
  refine TE.meth (id := tyOf o ++ ".rfind") (h.mono ?_) hp hb hf hl
  rintro ov σ1 ⟨l, rfl, h⟩
  refine ⟨Meth.rfind, fun p z₀ => (h p z₀).mono ?_⟩
  rintro z xs σ2 _ ⟨vs, r, c, rfl, q⟩
  exact ⟨_, r, call_rfind q⟩
theorem TE.rstrip (o : Bool) {e : Expr} {args : List Expr} {apos pos : Pos} (h : TE C e (fun ov σ1 => ∃ l, ov = .txt o l ∧ TArgs C args (fun vs σ2 => ∃ c, vs = [.txt o [c]] ∧ l.length ≤ 16777216 ∧ Q (.txt o (rstripS c l)) σ2) X σ1) X σ)
    (hp : (backTo pos (starEach args C.env)).any (·.1) = false := by rfl) (hb : attributeBase e "rstrip" C.env (eval e C.env) = eval e C.env := by rfl)
    (hf : methodCallForm (args.length + 0) (backTo pos (starEach args C.env)) [] = true := by rfl) (hl : (apos.endLine == pos.line) = true := by rfl) : TE C (.Call (.Attribute e "rstrip" apos) args [] pos) Q X σ := by
  refine TE.meth (id := tyOf o ++ ".rstrip") (h.mono ?_) hp hb hf hl
  rintro ov σ1 ⟨l, rfl, h⟩
  refine ⟨Meth.rstrip, fun p z₀ => (h p z₀).mono ?_⟩
  rintro z xs σ2 _ ⟨vs, r, c, rfl, hn, q⟩
  exact ⟨_, r, call_rstrip hn q⟩
theorem TE.join (o : Bool) {e : Expr} {args : List Expr} {apos pos : Pos} (h : TE C e (fun ov σ1 => ∃ l, ov = .txt o l ∧ TArgs C args (fun vs σ2 => ∃ v ps, vs = [v] ∧ IsL σ2 v (ps.map (.txt o)) ∧ (ps.map List.length).sum + ps.length * l.length ≤ 16777216 ∧ Q (.txt o (joinS l ps)) σ2) X σ1) X σ)
    (hp : (backTo pos (starEach args C.env)).any (·.1) = false := by rfl) (hb : attributeBase e "join" C.env (eval e C.env) = eval e C.env := by rfl)
    (hf : methodCallForm (args.length + 0) (backTo pos (starEach args C.env)) [] = true := by rfl) (hl : (apos.endLine == pos.line) = true := by rfl) : TE C (.Call (.Attribute e "join" apos) args [] pos) Q X σ := by
  refine TE.meth (id := tyOf o ++ ".join") (h.mono ?_) hp hb hf hl
  rintro ov σ1 ⟨l, rfl, h⟩
  refine ⟨Meth.join, fun p z₀ => (h p z₀).mono ?_⟩
  rintro z xs σ2 _ ⟨vs, r, v, ps, rfl, k, hn, q⟩
  exact ⟨_, r, call_join k hn q⟩
theorem TE.joinS {e : Expr} {args : List Expr} {apos pos : Pos} (h : TE C e (fun ov σ1 => ∃ l, ov = V.txt false l ∧ TArgs C args (fun vs σ2 => ∃ v ps, vs = [v] ∧ IsL σ2 v (ps.map (V.txt false)) ∧ (ps.map List.length).sum + ps.length * l.length ≤ 16777216 ∧ Q (V.txt false (joinS l ps)) σ2) X σ1) X σ)
    (hp : (backTo pos (starEach args C.env)).any (·.1) = false := by rfl) (hb : attributeBase e "join" C.env (eval e C.env) = eval e C.env := by rfl)
    (hf : methodCallForm (args.length + 0) (backTo pos (starEach args C.env)) [] = true := by rfl) (hl : (apos.endLine == pos.line) = true := by rfl) : TE C (.Call (.Attribute e "join" apos) args [] pos) Q X σ := by
  refine TE.meth (id := "str.join") (h.mono ?_) hp hb hf hl
  rintro ov σ1 ⟨l, rfl, h⟩
  refine ⟨Meth.str PySem.F.slot_str_join PySem.F.type_str_join, fun p z₀ => (h p z₀).mono ?_⟩
  rintro z xs σ2 _ ⟨vs, r, v, ps, rfl, k, hn, q⟩
  exact ⟨_, r, call_join_str k hn q⟩
end

/-- the value of `e` has this one -/
theorem Str1 : (("/" : Str)).cps.toList = [47] := by decide +kernel
theorem Str2 : ((".": Str)).cps.toList = [46] := by decide +kernel
theorem Str3 : (("" : Str)).cps.toList = [] := by decide +kernel
theorem Str4 : (("a" : Str)).cps.toList = [97] := by decide +kernel
theorem Str5 : ((".." : Str)).cps.toList = [46, 46] := by decide +kernel
theorem Str10 : (("b" : Str)).cps.toList = [98] := by decide +kernel
theorem Str11 : (("ab" : Str)).cps.toList = [97, 98] := by decide +kernel
theorem Str12 : (("bb" : Str)).cps.toList = [98, 98] := by decide +kernel
theorem Byt1 : (([47] : List UInt8)).map UInt8.toNat = [47] := by decide +kernel
theorem Byt2 : (([46] : List UInt8)).map UInt8.toNat = [46] := by decide +kernel
theorem Byt3 : (([] : List UInt8)).map UInt8.toNat = [] := by decide +kernel
theorem Byt4 : (([46, 46] : List UInt8)).map UInt8.toNat = [46, 46] := by decide +kernel

noncomputable abbrev BI : List Str := ["len", "ord", "chr", "abs", "min", "max", "sum", "isinstance", "issubclass", "sorted", "divmod", "range", "list", "tuple", "bytes", "str", "int", "bool", "type", "enumerate", "bytearray", "map", "iter", "ValueError", "TypeError", "AttributeError", "BytesWarning"]
namespace BI
theorem len : bootBuiltins "len" = some (.builtin "len") := by kernel_rfl
theorem ord : bootBuiltins "ord" = some (.builtin "ord") := by kernel_rfl
theorem chr : bootBuiltins "chr" = some (.builtin "chr") := by kernel_rfl
theorem abs : bootBuiltins "abs" = some (.builtin "abs") := by kernel_rfl
theorem min : bootBuiltins "min" = some (.builtin "min") := by kernel_rfl
theorem max : bootBuiltins "max" = some (.builtin "max") := by kernel_rfl
theorem sum : bootBuiltins "sum" = some (.builtin "sum") := by kernel_rfl
theorem isinstance : bootBuiltins "isinstance" = some (.builtin "isinstance") := by kernel_rfl
theorem issubclass : bootBuiltins "issubclass" = some (.builtin "issubclass") := by kernel_rfl
theorem divmod : bootBuiltins "divmod" = some (.builtin "divmod") := by kernel_rfl
theorem range : bootBuiltins "range" = some (.type "range") := by kernel_rfl
theorem list : bootBuiltins "list" = some (.type "list") := by kernel_rfl
theorem tuple : bootBuiltins "tuple" = some (.type "tuple") := by kernel_rfl
theorem bytes : bootBuiltins "bytes" = some (.type "bytes") := by kernel_rfl
theorem str : bootBuiltins "str" = some (.type "str") := by kernel_rfl
theorem bool : bootBuiltins "bool" = some (.type "bool") := by kernel_rfl
theorem type : bootBuiltins "type" = some (.type "type") := by kernel_rfl
theorem bytearray : bootBuiltins "bytearray" = some (.type "bytearray") := by kernel_rfl
end BI

theorem ite_t {c : Prop} [Decidable c] {A B : Prop} (h : c) (k : A) : if c then A else B := by rw [if_pos h]; exact k
theorem ite_f {c : Prop} [Decidable c] {A B : Prop} (h : ¬ c) (k : B) : if c then A else B := by rw [if_neg h]; exact k
theorem ite_b {c : Prop} [Decidable c] {A B : Prop} (h1 : c → A) (h2 : ¬ c → B) : if c then A else B := by
  by_cases h : c
  · rw [if_pos h]; exact h1 h
  · rw [if_neg h]; exact h2 h
theorem start1 {x : Str} {a : V} {H : Led} : Le ⟨[(x, a)], H⟩ ⟨bindV ([x].zip [a]) [], H⟩ := ⟨Lo.cons lk_hit Lo.nil, List.Sublist.refl _⟩
theorem start2 {x y : Str} {a b : V} {H : Led} (h : x ≠ y) : Le ⟨[(x, a), (y, b)], H⟩ ⟨bindV ([x, y].zip [a, b]) [], H⟩ := ⟨Lo.cons (lk_miss h lk_hit) (Lo.cons lk_hit Lo.nil), List.Sublist.refl _⟩
/-- what is plain about a def -/
structure Plain (d : DefRec) : Prop where
  kind : d.scope.kind = .function
  co : d.scope.isCoroutine = false
  gen : d.scope.isGenerator = false
  pos : d.params.posonlyargs = []
  va : d.params.vararg = none
  ko : d.params.kwonlyargs = []
  kd : d.params.kw_defaults = []
  kw : d.params.kwarg = none
  df : d.params.defaults = []
  names : (d.params.args.map (·.arg)).all (fun x => d.scope.names.lookup x == some .local || d.scope.names.lookup x == some .cell) = true
  nodup : ((cellsFrom 0 d.scope.names []).map (·.1)).Nodup

theorem fn_of {g : Gd} {p : Program} {i : Nat} (P : Plain (recAt p i)) (hbind : ∀ (pm code doc : Value) (xs : List Value), xs.length = (parsAt p i).length → bindArgs (docDef (recAt p i).name (recAt p i).params (recAt p i).body (recAt p i).scope pm code doc) ⟨xs, []⟩ = pure ((parsAt p i).zip xs))
    (h : ∃ a o pm code doc, g.mg (recAt p i).name = some (.ref a) ∧ g.base.get? a = some o ∧ o.data = .func (docDef (recAt p i).name (recAt p i).params (recAt p i).body (recAt p i).scope pm code doc) ∧ g.base.CodeRec code (recAt p i).name) :
    ∃ a, Fn g p i a := by
  obtain ⟨a, o, pm, code, doc, h1, h2, h3, h4⟩ := h
  refine ⟨a, h1, _, ⟨⟨o, h2, h3⟩, h4, rfl, rfl, rfl, rfl, rfl, P.kind, P.co, P.gen, P.nodup⟩, hbind pm code doc, fun x hx => ?_⟩
  have := List.all_eq_true.mp P.names x hx
  simpa using this
structure PlainS (d : DefRec) : Prop where
  kind : d.scope.kind = .function
  co : d.scope.isCoroutine = false
  gen : d.scope.isGenerator = false
  names : (d.params.args.map (·.arg) ++ [(d.params.vararg.map (·.arg)).getD default]).all (fun x => d.scope.names.lookup x == some .local || d.scope.names.lookup x == some .cell) = true
  nodup : ((cellsFrom 0 d.scope.names []).map (·.1)).Nodup
theorem fn_ofS {g : Gd} {p : Program} {i : Nat} (P : PlainS (recAt p i)) (hbind : ∀ (pm code doc : Value) (xs : List Value), (parsAt p i).length ≤ xs.length → bindArgs (docDef (recAt p i).name (recAt p i).params (recAt p i).body (recAt p i).scope pm code doc) ⟨xs, []⟩ = (PySem.newTuple (xs.drop (parsAt p i).length) >>= fun t => pure ((parsAt p i).zip xs ++ [(starAt p i, t)])))
    (h : ∃ a o pm code doc, g.mg (recAt p i).name = some (.ref a) ∧ g.base.get? a = some o ∧ o.data = .func (docDef (recAt p i).name (recAt p i).params (recAt p i).body (recAt p i).scope pm code doc) ∧ g.base.CodeRec code (recAt p i).name) :
    ∃ a, FnS g p i a := by
  obtain ⟨a, o, pm, code, doc, h1, h2, h3, h4⟩ := h
  refine ⟨a, h1, _, ⟨⟨o, h2, h3⟩, h4, rfl, rfl, rfl, rfl, rfl, P.kind, P.co, P.gen, P.nodup⟩, hbind pm code doc, fun x hx => ?_⟩
  have := List.all_eq_true.mp P.names x hx
  simpa using this
noncomputable def gdOf (prog : Program) (w : World) {p : Program} {loose : List Str} {mean : ExcName → Option Value} {mg mb : Str → Option Value} (s : Shared) (T : Top p loose mean mg mb s.heap) : Gd :=
  { prog := prog, w := w, base := s.heap, os := s.os, mg := mg, mb := mb, hmg := T.g, hmb := T.b, lim := T.nolimit, hbi := T.builtins }
theorem wellInts {P : Params} {h : Heap} : ∀ (xs : List Int) (vs : List Value), WellAll P h vs (ofPys (xs.map .int)) → RepL (fun a => h.get? a) (xs.map .int) vs := by
  intro xs
  induction xs with
  | nil => intro vs w; cases w; exact .nil
  | cons x xs ih =>
    intro vs w
    cases w with
    | cons a b => cases a; exact .cons (.int _ _) (ih _ b)
theorem finish {p : Program} {loose : List Str} {mean : ExcName → Option Value} {mg mb : Str → Option Value} {prog : Program} {w : World} {s : Shared} (T : Top p loose mean mg mb s.heap) (hg : s.gens = #[]) {fa l : Addr} {xs : List Int} {P : Params}
    (hw : Well P s.heap (.ref l) (ofPy (.list (xs.map .int)))) {c : ClaimW} {cl : Str → Option Addr} {mean' : ExcName → Option Value} {args : List WData}
    (main : CallT (gdOf prog w s T) 100 (.ref fa) [.lst (xs.map .int)] (fun v _ => v = .bool true) (fun _ _ => False) [])
    (hn : ∀ cls, c.raises args cls = false) (hp : c.post args (.bool true) args = true) : codeAny (model prog w) callerA (.call (.ref fa) ⟨[.ref l], []⟩) (GoodW c cl mean' args s) s := by
  have rh : RH (gdOf prog w s T) (fun _ => none) [] (fun a => s.heap.get? a) s :=
    ⟨fun _ _ e => e, fun _ _ e => e, fun _ _ e => (by cases e), fun _ _ e => (by cases e), fun _ h => (by cases h), List.nodup_nil, hg, rfl⟩
  have hl : Rep (fun a => s.heap.get? a) (.lst (xs.map .int)) (.ref l) := by
    cases hw with
    | list e ha => exact .lst (n := 0) e (wellInts _ _ ha)
  refine codeAny_mono (main callerA [] (fun _ => none) _ s _ (by decide +kernel) (by decide +kernel) rfl rfl ⟨fun e he => (by cases he)⟩ rh (.cons hl .nil)) ?_
  intro r s' hr
  cases r with
  | ok fl =>
    cases fl with
    | ret val =>
      obtain ⟨z', H', v, lz, r', rv, rfl⟩ := hr
      have rvq := rv.e; clear rv; obtain ⟨_, rfl⟩ := rvq
      exact ⟨.inl ⟨_, .bool true, [], rfl, hn, .bool true, hp, fun _ => ⟨List.nodup_nil, fun _ h => (by cases h)⟩⟩, fun b o e => r'.hz b o (r'.hbase b o e), r'.os, r'.gens⟩
    | _ => exact hr.elim
  | error e =>
    obtain ⟨_, _, _, _, _, _, x⟩ := hr
    exact x.elim
theorem free_of {p : Program} {loose : List Str} {mean : ExcName → Option Value} {mg mb : Str → Option Value} {prog : Program} {w : World} {s : Shared} (T : Top p loose mean mg mb s.heap)
    (key : ∀ x ∈ BI, x ∉ startupNames ∧ x ∉ loose ∧ x ∉ (recsOf p).map (·.name) ∧ x ∉ (litsOf p).map (·.1) ∧ x ∉ (clssOf p loose).map (·.name)) : Free (gdOf prog w s T) BI :=
  fun x hx => let ⟨a, b, c, d, e⟩ := key x hx; T.free x a b c d e
end PL

end
section
open PySem PySem.Calls PyProof.Rows
set_option Elab.async false
set_option linter.unusedVariables false
set_option linter.unusedSimpArgs false
set_option maxRecDepth 100000
namespace PL

theorem clamp_nat (n k : Nat) : (max 0 (min (k : Int) (n : Int))).toNat = min k n := by
  rcases Nat.le_total k n with h | h
  · rw [Int.min_eq_left (Int.ofNat_le.mpr h), Int.max_eq_right (Int.natCast_nonneg k), Int.toNat_natCast, Nat.min_eq_left h]
  · rw [Int.min_eq_right (Int.ofNat_le.mpr h), Int.max_eq_right (Int.natCast_nonneg n), Int.toNat_natCast, Nat.min_eq_right h]
theorem clip_nat (n k : Nat) : clipAt n (k : Int) = min k n := by
  unfold clipAt
  rw [if_neg (Int.not_lt.mpr (Int.natCast_nonneg k)), clamp_nat]
theorem clip_m1 (n : Nat) : clipAt n (-1) = n - 1 := by
  unfold clipAt
  rw [if_pos (by decide)]
  cases n with
  | zero => rfl
  | succ k =>
    have e : (-1 : Int) + ((k + 1 : Nat) : Int) = (k : Int) := by (first | lia | omega)
    rw [e, clamp_nat, Nat.min_eq_left (Nat.le_succ k)]; rfl
theorem sl_to {α : Type} (l : List α) (j : Nat) : sl l none (some (j : Int)) = l.take j := by
  simp only [sl, Option.elim_none, Option.elim_some, List.drop_zero, clip_nat, Nat.sub_zero]
  by_cases h : j ≤ l.length
  · rw [Nat.min_eq_left h]
  · rw [Nat.min_eq_right (by (first | lia | omega)), List.take_of_length_le (Nat.le_refl _), List.take_of_length_le (by (first | lia | omega))]
theorem sl_from {α : Type} (l : List α) (i : Nat) : sl l (some (i : Int)) none = l.drop i := by
  simp only [sl, Option.elim_none, Option.elim_some, clip_nat]
  by_cases h : i ≤ l.length
  · rw [Nat.min_eq_left h]; exact List.take_of_length_le (by simp)
  · rw [Nat.min_eq_right (by (first | lia | omega)), List.drop_eq_nil_of_le (by (clear h i; (first | lia | omega))), List.drop_eq_nil_of_le (by (first | lia | omega))]; simp
theorem upTo_map : ∀ (n : Nat) (a : Nat), upTo (a : Int) n = (List.range n).map fun k : Nat => V.int ((a + k : Nat) : Int) := by
  intro n a
  apply List.ext_getElem?
  intro i
  rw [upGet, List.getElem?_map]
  by_cases h : i < n
  · rw [if_pos h, List.getElem?_range h]; simp
  · rw [if_neg h, List.getElem?_eq_none (by simpa using h)]; rfl
section
variable {C : Cx} {X : XP} {σ : St} {Q : V → St → Prop}
theorem Walk.rngAB {a b : Nat} (ha : a ≤ 1000000) (hb : b ≤ 1000000) : Walk C (.rng (a : Int) (b : Int) 1) ((List.range (b - a)).map fun k : Nat => V.int ((a + k : Nat) : Int)) (fun _ => True) := by
  have := Walk.rng (C := C) (small_range (a := a) (b := b) (by (clear hb b ha; (first | lia | omega))) (by (clear hb b; (first | lia | omega))) (by (clear ha a hb; (first | lia | omega))) (by (clear ha a; (first | lia | omega))))
  rw [show ((b : Int) - a).toNat = b - a by (clear this hb ha; (first | lia | omega)), upTo_map] at this
  exact this
theorem Walk.rngN {b : Nat} (hb : b ≤ 1000000) : Walk C (.rng 0 (b : Int) 1) ((List.range b).map fun k : Nat => V.int (k : Int)) (fun _ => True) := by
  have := Walk.rngAB (C := C) (a := 0) (b := b) (by (clear hb b; (first | lia | omega))) hb
  simpa using this
theorem swaps_cell {e : Expr} {x : Str} {p : Pos} {n : Nat} (h : C.env.kindOf x = some .cell) : swapsWith e (some (.Name x p)) n C.env = pure false := by
  have e1 : (C.env.kindOf x == some NameKind.local) = false := by rw [h]; rfl
  unfold swapsWith
  split <;> simp [e1]
theorem TS.assignC {g : Gd} {n : Nat} {sc : Scope} (hIn : In C g n sc) (hr : C.ro = []) {x : Str} {p p' : Pos} {e : Expr} {Q : Fl → St → Prop} (k : sc.names.lookup x = some .cell) (h : TE C e (fun v σ1 => Q .next ⟨setL σ1.loc x v, σ1.H⟩) X σ) : TS C (.Assign [.Name x p'] e p) Q X σ :=
  TS.assign (hIn.stC hr k) h (swaps_cell ((hIn.kind x).trans k))
theorem TE.cut {P : V → St → Prop} {e : Expr} (h : TE C e P X σ) (k : ∀ v σ', P v σ' → Q v σ') : TE C e Q X σ := h.mono k
end
/-- a list of counts -/
noncomputable def cnt (n : Nat) (F : Nat → Int) : List V := (List.range n).map fun k => V.int (F k)
theorem plainVs_all : ∀ {vs : List V}, (∀ v ∈ vs, plainV v = true) → plainVs vs = true
  | [], _ => rfl
  | v :: r, h => by simp [plainVs, h v (by simp), plainVs_all fun x hx => h x (List.mem_cons_of_mem _ hx)]
theorem deepVs_le {n : Nat} : ∀ {vs : List V}, (∀ v ∈ vs, deepV v ≤ n) → deepVs vs ≤ n
  | [], _ => Nat.zero_le _
  | v :: r, h => by
    have h1 := h v (by simp)
    have h2 := deepVs_le (vs := r) fun x hx => h x (List.mem_cons_of_mem _ hx)
    simp [deepVs]; (clear h; (first | lia | omega))
section
variable {C : Cx} {X : XP} {σ : St} {Q : V → St → Prop}
end
theorem filterMap_some {α β : Type} (l : List α) (f : α → β) : l.filterMap (fun x => some (f x)) = l.map f := by
  induction l with
  | nil => rfl
  | cons a r ih => simp
theorem Le.both {L : List (Str × V)} {H : Led} {σ : St} {x : Str} {v : V} (h : Le ⟨L, H⟩ σ) : Le ⟨PL.setL L x v, H⟩ ⟨PL.setL σ.loc x v, σ.H⟩ := ⟨h.loc.set, h.led⟩
theorem range_item {m i : Nat} {φ : Nat → V} {u : V} (h : ((List.range m).map φ)[i]? = some u) : i < m ∧ u = φ i := by
  rw [List.getElem?_map] at h
  by_cases hi : i < m
  · rw [List.getElem?_range hi] at h; cases h; exact ⟨hi, rfl⟩
  · rw [List.getElem?_eq_none (by simpa using hi)] at h; cases h
section
variable {C : Cx} {X : XP} {σ : St}
end
end PL

end
section
open PySem PySem.Calls PyProof.Rows
set_option Elab.async false
set_option linter.unusedVariables false
set_option linter.unusedSimpArgs false
set_option maxRecDepth 100000
namespace PL

theorem strsFrom_rep {z : Z} : ∀ (ps : List (List Nat)) (tk : Nat), RepL z (ps.map (.txt false)) (strsFrom tk (ps.map strOf))
  | [], tk => .nil
  | p :: r, tk => .cons (.str p tk) (strsFrom_rep r (tk + 1))
section
variable {prog : Program} {w : World} {A : Around} {E : Value → Shared → Prop} {s : Shared} {l : List Nat} {c : Nat} {t u : Tok}
theorem call_str_split {Q : Value → Shared → Prop} (hn : l.length ≤ 10000000)
    (h : ∀ xs k, (∀ z, RepL z ((splitS c l).map (.txt false)) xs) → Q (.ref s.heap.objs.size) { s with heap := s.heap.push (lstO xs 0), toks := k }) :
    wpAny (model prog w) A (call (.builtin "str.split") [.str ⟨l.toArray⟩ t, .str ⟨#[c]⟩ u]) Q E s := by
  have hs := str_split l c
  have hx : (⟨l.toArray⟩ : Str).length ≤ sizeLine := by rw [strlen]; exact size_ok (by (clear hs h Q; (first | lia | omega)))
  have hy : ((⟨#[c]⟩ : Str).length == 0) = false := rfl
  by_cases h1 : (decide ((⟨l.toArray⟩ : Str).length < (⟨#[c]⟩ : Str).length) || decide (Builtin.Str.strKind ⟨l.toArray⟩ < Builtin.Str.strKind ⟨#[c]⟩)) = true
  · have e : (splitS c l).map strOf = [⟨l.toArray⟩] := by rw [← hs]; unfold Txt.split; rw [if_pos h1]
    refine call_meets PySem.F.slot_str_split (typeIs_str _ _ _) PySem.F.entry_str_split (PySem.F.args_str_split_2 _ _) (meets_str_split_cannot_occur _ _ t u h1) ?_
    refine h [.str ⟨l.toArray⟩ t] s.toks fun z => ?_
    have e2 : splitS c l = [l] := by
      match hsp : splitS c l with
      | [] => exact absurd hsp (splitS_ne c l)
      | [p] => rw [hsp] at e; simp [strOf] at e; rw [e]
      | p :: q :: r => rw [hsp] at e; simp at e
    rw [e2]; exact .cons (.str l t) .nil
  · have h1' := Bool.not_eq_true _ ▸ h1
    have h1' : (decide ((⟨l.toArray⟩ : Str).length < (⟨#[c]⟩ : Str).length) || decide (Builtin.Str.strKind ⟨l.toArray⟩ < Builtin.Str.strKind ⟨#[c]⟩)) = false := by simpa using h1
    cases hf : (Builtin.Str.occurrences ⟨l.toArray⟩ ⟨#[c]⟩ 0 (⟨l.toArray⟩ : Str).length ((⟨l.toArray⟩ : Str).length + 1)).isEmpty with
    | true =>
      have e : (splitS c l).map strOf = [⟨l.toArray⟩] := by rw [← hs]; unfold Txt.split; rw [if_neg h1, if_pos hf]
      refine call_meets PySem.F.slot_str_split (typeIs_str _ _ _) PySem.F.entry_str_split (PySem.F.args_str_split_2 _ _) (meets_str_split_not_found _ _ t u h1' hy hf) ?_
      refine h [.str ⟨l.toArray⟩ t] s.toks fun z => ?_
      have e2 : splitS c l = [l] := by
        match hsp : splitS c l with
        | [] => exact absurd hsp (splitS_ne c l)
        | [p] => rw [hsp] at e; simp [strOf] at e; rw [e]
        | p :: q :: r => rw [hsp] at e; simp at e
      rw [e2]; exact .cons (.str l t) .nil
    | false =>
      have e : Builtin.Str.partsBetween ⟨l.toArray⟩ (Builtin.Str.occurrences ⟨l.toArray⟩ ⟨#[c]⟩ 0 (⟨l.toArray⟩ : Str).length ((⟨l.toArray⟩ : Str).length + 1)) (⟨#[c]⟩ : Str).length = (splitS c l).map strOf := by
        rw [← hs]; unfold Txt.split; rw [if_neg h1, if_neg (by rw [hf]; decide)]
      refine call_meets PySem.F.slot_str_split (typeIs_str _ _ _) PySem.F.entry_str_split (PySem.F.args_str_split_2 _ _) (meets_str_split_sep _ _ t u h1' hy hf hx ?_) ?_
      · rw [e, List.length_map]
        exact size_ok (Nat.le_trans (splitS_length c l) (by (first | lia | omega)))
      · rw [e]
        exact h _ _ fun z => strsFrom_rep (splitS c l) s.toks
end

section
variable {C : Cx} {X : XP} {σ : St} {Q : V → St → Prop}
theorem call_split {o : Bool} {l : List Nat} {c : Nat} (hn : l.length ≤ 10000000) (h : Q (.lst ((splitS c l).map (.txt o))) σ) : CallV C (.builtin (tyOf o ++ ".split")) [.txt o l, .txt o [c]] Q X σ := by
  refine CallV.toks fun z₀ zs z s xs hz hR r => ?_
  have fin : ∀ (ys : List Value) k, (∀ z, RepL z ((splitS c l).map (.txt o)) ys) →
      Post C zs z (PVal Q) (.ref s.heap.objs.size) { s with heap := s.heap.push (lstO ys 0), toks := k } := by
    intro ys k ry
    obtain ⟨R', le⟩ := hR.frozen (lstO ys 0) k
    exact ⟨_, _, le, R', _, .lst put_self (ry _), h⟩
  have rq := RepL.inv r; clear r; obtain ⟨_, _, rfl, r, t⟩ := rq
  have tq := RepL.inv t; clear t; obtain ⟨_, _, rfl, r2, t⟩ := tq
  cases t.inv0; clear t
  have rq := r.txt_; clear r; rcases rq with ⟨rfl, t, rfl⟩ | ⟨rfl, t, rfl, hl⟩
  · have r2q := r2.e; clear r2; obtain ⟨u, rfl⟩ := r2q
    exact call_str_split hn fin
  · have r2q := r2.e; clear r2; obtain ⟨u, rfl, hc⟩ := r2q
    exact call_bytes_split hl (hc c (by simp)) hn fin

/-- the last thing goes -/
theorem RepL.take_ {z : Z} {vs : List V} {xs : List Value} (n : Nat) (h : RepL z vs xs) : RepL z (vs.take n) (xs.take n) := by
  refine h.ind (P := fun vs xs => ∀ n : Nat, RepL z (vs.take n) (xs.take n)) (fun n => ?_) (fun a t ih n => ?_) n
  · rw [List.take_nil, List.take_nil]; exact .nil
  · cases n with
    | zero => exact .nil
    | succ n => exact .cons a (ih n)
theorem RepL.dropLast {z : Z} {vs : List V} {xs : List Value} (h : RepL z vs xs) : RepL z vs.dropLast xs.dropLast := by
  rw [List.dropLast_eq_take, List.dropLast_eq_take, h.length]
  exact h.take_ _
theorem call_append {a : Addr} {vs : List V} {v : V} {H' : Led} (hu : Upd a (.list vs) (.list (vs ++ [v])) σ.H H') (hn : vs.length ≤ 16777216) (h : Q .none ⟨σ.loc, H'⟩) : CallV C (.builtin "list.append") [.ref a, v] Q X σ := by
  refine CallV.toks fun z₀ zs z s xs hz hR r => ?_
  have rq := RepL.inv r; clear r; obtain ⟨_, _, rfl, r, t⟩ := rq
  have tq := RepL.inv t; clear t; obtain ⟨_, _, rfl, r2, t⟩ := tq
  cases t.inv0; clear t; have rq := r.e; clear r; obtain ⟨_, rfl⟩ := rq
  obtain ⟨⟨items, n, e, rl⟩, _⟩ := hR.rh.hH _ hu.mem
  refine wpAny_list_append_plain (items := items.toArray) ⟨n, e⟩ (fun h' hp hs => ?_) (by rw [List.size_toArray, rl.length]; exact size_ok hn)
  obtain ⟨k, hk⟩ := hp
  exact ⟨z, _, Z.le_refl _, hR.upd hu (t := s.toks) hs ⟨items ++ [_], k, by rw [hk]; simp [lstO], rl.append (.cons r2 .nil)⟩, _, .none, h⟩
theorem call_pop {a : Addr} {vs : List V} {v : V} {H' : Led} (hu : Upd a (.list vs) (.list vs.dropLast) σ.H H') (hn : vs.length ≤ 16777216) (hv : vs[vs.length - 1]? = some v) (h : Q v ⟨σ.loc, H'⟩) : CallV C (.builtin "list.pop") [.ref a] Q X σ := by
  refine CallV.toks fun z₀ zs z s xs hz hR r => ?_
  have rq := RepL.inv r; clear r; obtain ⟨_, _, rfl, r, t⟩ := rq
  cases t.inv0; clear t; have rq := r.e; clear r; obtain ⟨_, rfl⟩ := rq
  obtain ⟨⟨items, n, e, rl⟩, _⟩ := hR.rh.hH _ hu.mem
  obtain ⟨x, hx, rx⟩ := rl.get hv
  have hx' : items.toArray[items.toArray.size - 1]? = some x := by rw [List.size_toArray, rl.length]; simpa using hx
  have hpos : items.length ≠ 0 := by
    rw [rl.length]; intro e0; rw [e0] at hv
    have := List.length_eq_zero_iff.mp e0
    subst this; cases hv
  have ee : items.toArray.eraseIdxIfInBounds (items.toArray.size - 1) = items.dropLast.toArray := by
    have : ∀ l : List Value, l.eraseIdx (l.length - 1) = l.dropLast := by
      intro l
      induction l with
      | nil => rfl
      | cons a r ih => cases r with
        | nil => rfl
        | cons b r => simpa using ih
    rw [List.size_toArray, ← this]
    unfold Array.eraseIdxIfInBounds
    rw [dif_pos (by simp; (clear this hx' rx hx x rl e n hR hz s z₀ h hv hn hu H' v; (first | lia | omega)))]
    simp
  obtain ⟨n', e2⟩ : ∃ n', Obj.mapSeq (fun xs => xs.eraseIdxIfInBounds (items.toArray.size - 1)) (lstO items n) = lstO items.dropLast n' := by
    refine ⟨if (items.toArray.eraseIdxIfInBounds (items.toArray.size - 1)).size = items.toArray.size then n else n + 1, ?_⟩
    simp only [Obj.mapSeq, lstO, ee, beq_iff_eq]
  refine call_meets PySem.F.slot_list_pop ⟨_, e, rfl⟩ PySem.F.entry_list_pop (PySem.F.args_list_pop_1 _) (PySem.MeetsSeq.list_pop_last a items.toArray n x hx' (by rw [List.size_toArray, rl.length]; exact size_ok hn)) ⟨e, ?_⟩
  refine ⟨z, _, Z.le_refl _, hR.upd hu (t := s.toks) (Heap.SameBut.update ..) ⟨items.dropLast, n', ?_, rl.dropLast⟩, _, rx, h⟩
  rw [Heap.get?_update_self _ e (by rw [e2]; rfl), e2]

/-! methods of a list -/
theorem TE.appendM {e : Expr} {args : List Expr} {apos pos : Pos} (h : TE C e (fun ov σ1 => ∃ a vs, ov = .ref a ∧ (a, AO.list vs) ∈ σ1.H ∧ TArgs C args (fun us σ2 => ∃ v vs' H', us = [v] ∧ Upd a (.list vs') (.list (vs' ++ [v])) σ2.H H' ∧ vs'.length ≤ 16777216 ∧ Q .none ⟨σ2.loc, H'⟩) X σ1) X σ)
    (hp : (backTo pos (starEach args C.env)).any (·.1) = false := by rfl) (hb : attributeBase e "append" C.env (eval e C.env) = eval e C.env := by rfl)
    (hf : methodCallForm (args.length + 0) (backTo pos (starEach args C.env)) [] = true := by rfl) (hl : (apos.endLine == pos.line) = true := by rfl) : TE C (.Call (.Attribute e "append" apos) args [] pos) Q X σ := by
  refine TE.meth (id := "list.append") (h.mono ?_) hp hb hf hl
  rintro ov σ1 ⟨a, vs, rfl, hm, h⟩
  refine ⟨Meth.list (.mt hm) PySem.F.slot_list_append PySem.F.type_list_append, fun p z₀ => (h p z₀).mono ?_⟩
  rintro z xs σ2 _ ⟨us, r, v, vs', H', rfl, hu, hn, q⟩
  exact ⟨_, r, call_append hu hn q⟩
theorem TE.popM {e : Expr} {apos pos : Pos} (h : TE C e (fun ov σ1 => ∃ a vs v H', ov = .ref a ∧ Upd a (.list vs) (.list vs.dropLast) σ1.H H' ∧ vs.length ≤ 16777216 ∧ vs[vs.length - 1]? = some v ∧ Q v ⟨σ1.loc, H'⟩) X σ)
    (hb : attributeBase e "pop" C.env (eval e C.env) = eval e C.env := by rfl) (hl : (apos.endLine == pos.line) = true := by rfl) : TE C (.Call (.Attribute e "pop" apos) [] [] pos) Q X σ := by
  refine TE.meth (id := "list.pop") (h.mono ?_) rfl hb rfl hl
  rintro ov σ1 ⟨a, vs, v, H', rfl, hu, hn, hv, q⟩
  exact ⟨Meth.list (.mt hu.mem) PySem.F.slot_list_pop PySem.F.type_list_pop, TArgs.nil (call_pop hu hn hv q)⟩
theorem TE.split (o : Bool) {e : Expr} {args : List Expr} {apos pos : Pos} (h : TE C e (fun ov σ1 => ∃ l, ov = .txt o l ∧ TArgs C args (fun vs σ2 => ∃ c, vs = [.txt o [c]] ∧ l.length ≤ 10000000 ∧ Q (.lst ((splitS c l).map (.txt o))) σ2) X σ1) X σ)
    (hp : (backTo pos (starEach args C.env)).any (·.1) = false := by rfl) (hb : attributeBase e "split" C.env (eval e C.env) = eval e C.env := by rfl)
    (hf : methodCallForm (args.length + 0) (backTo pos (starEach args C.env)) [] = true := by rfl) (hl : (apos.endLine == pos.line) = true := by rfl) : TE C (.Call (.Attribute e "split" apos) args [] pos) Q X σ := by
  refine TE.meth (id := tyOf o ++ ".split") (h.mono ?_) hp hb hf hl
  rintro ov σ1 ⟨l, rfl, h⟩
  refine ⟨Meth.split, fun p z₀ => (h p z₀).mono ?_⟩
  rintro z xs σ2 _ ⟨vs, r, c, rfl, hn, q⟩
  exact ⟨_, r, call_split hn q⟩

/-! unpacking -/
noncomputable def TIn (C : Cx) (ts : List Expr) (vs : List V) (Q : St → Prop) (X : XP) (σ : St) : Prop := ∀ z₀ xs, RepL z₀ vs xs → TT C z₀ (assignInOrder ((assignEach ts C.env).map (·.2)) xs) (fun _ _ σ' => Q σ') X σ
theorem TIn.nil {Q : St → Prop} (h : Q σ) : TIn C [] [] Q X σ := fun z₀ xs r => by cases r.inv0; exact TT.pure fun _ _ => h
theorem TIn.cons {t : Expr} {ts : List Expr} {v : V} {vs : List V} {Q : St → Prop} (h : TAs C t v (fun σ1 => TIn C ts vs Q X σ1) X σ)
    (he : assignEach (t :: ts) C.env = (false, assign t C.env) :: assignEach ts C.env := by rfl) : TIn C (t :: ts) (v :: vs) Q X σ := by
  intro z₀ xs r
  have rq := RepL.inv r; clear r; obtain ⟨_, _, rfl, rv, rt⟩ := rq
  rw [he]
  show TT C z₀ (do holding _ (assign t C.env _); assignInOrder ((assignEach ts C.env).map (·.2)) _) _ X σ
  refine TT.bind (TT.holding (TT.mono (h z₀ _ rv) ?_))
  rintro z ⟨⟩ σ1 l h1
  exact h1 z _ (rt.mono l)
theorem TAs.tuple {ts : List Expr} {k : Nat} {p : Pos} {vs : List V} {Q : St → Prop} (hh : C.A.handled = none) (hn : ts.length = vs.length) (h : TIn C ts vs Q X σ)
    (he : (assignEach ts C.env).length = ts.length := by rfl) (hstar : (assignEach ts C.env).findIdx? (·.1) = none := by rfl) : TAs C (.Tuple ts k p) (.tup vs) Q X σ := by
  intro z₀ x r zs z s hz hR
  obtain ⟨a, items, n, rfl, e, rl⟩ := rep_tupO (r.mono hz) hR
  refine wpAny_assign_Tuple hh (isTuple_of e) (by rw [he, hn, List.size_toArray, rl.length]) hstar fun h' hx => ?_
  have R' : R C zs σ z { s with heap := h' } := hR.grow (t := s.toks) fun b o eb => hx b o (Nat.ne_of_lt (Heap.lt_size eb)) eb
  exact h z _ rl zs z _ (Z.le_refl _) R'
theorem TS.assignTo {t e : Expr} {p : Pos} {Q : Fl → St → Prop} (h : TE C e (fun v σ1 => TAs C t v (fun σ2 => Q .next σ2) X σ1) X σ)
    (he : (assignEach [t] C.env).map (·.2) = [PySem.assign t C.env] := by rfl) (hs : swapsWithSole [t] e p.line C.env = Pure.pure false := by rfl) (hw : swappedStores [t] e C.env = Pure.pure none := by rfl) : TS C (.Assign [t] e p) Q X σ := by
  intro z₀ zs z s hz hR
  refine wpAny_Assign_stores ?_ hs hw
  refine wpAny_mono (h z₀ zs z s hz hR) ?_ fun _ _ x => x
  rintro v s1 ⟨z1, σ1, l1, R1, u, ru, h1⟩
  rw [he]
  refine wpAny_mono (h1 z1 v ru zs z1 s1 (Z.le_refl _) R1) ?_ fun _ _ x => PX.le l1 x
  rintro ⟨⟩ s2 ⟨z2, σ2, l2, R2, q⟩
  exact ⟨z2, σ2, Z.le_trans l1 l2, R2, .next, .next, q⟩
end
end PL

end
section
open PySem PySem.Calls PyProof.Rows
set_option Elab.async false
set_option linter.unusedVariables false
set_option linter.unusedSimpArgs false
set_option maxRecDepth 100000
namespace PL
theorem sl_toL {α : Type} (l : List α) (j : Int) (n : Nat) (h : j = (n : Int)) : sl l none (some j) = l.take n := by rw [h, sl_to]
theorem sl_fromL {α : Type} (l : List α) (j : Int) (n : Nat) (h : j = (n : Int)) : sl l (some j) none = l.drop n := by rw [h, sl_from]
theorem sl_12 {α : Type} (l : List α) (i j : Int) (n : Nat) (h : i = (n : Int)) (h2 : j = ((n + 1 : Nat) : Int)) : sl l (some i) (some j) = (l.drop n).take 1 := by
  subst h; subst h2
  simp only [sl, Option.elim_some, clip_nat]
  by_cases hn : n < l.length
  · rw [Nat.min_eq_left (show n ≤ l.length by (first | lia | omega)), Nat.min_eq_left (show n + 1 ≤ l.length by (first | lia | omega)), Nat.add_sub_cancel_left]
  · rw [Nat.min_eq_right (show l.length ≤ n by (first | lia | omega)), List.drop_eq_nil_of_le (Nat.le_refl _), List.drop_eq_nil_of_le (by (first | lia | omega))]; simp
noncomputable def dirS (w : List Nat) : List Nat := if w.take (cut 47 w) ≠ [] ∧ w.take (cut 47 w) ≠ List.replicate (w.take (cut 47 w)).length 47 then rstripS 47 (w.take (cut 47 w)) else w.take (cut 47 w)
section
variable {C : Cx} {X : XP} {σ : St}
theorem TS.cut {st : Stmt} {P Q : Fl → St → Prop} (h : TS C st P X σ) (k : ∀ f σ', P f σ' → Q f σ') : TS C st Q X σ := fun z₀ => (h z₀).mono fun z f σ' _ ⟨fl, r, q⟩ => ⟨fl, r, k _ _ q⟩
theorem TB.cut {e : Expr} {P Q : Bool → St → Prop} (h : TB C e P X σ) (k : ∀ f σ', P f σ' → Q f σ') : TB C e Q X σ := h.mono k
end
/-! what the path functions answer -/
/-- how many slashes make the root -/
noncomputable def rootN (l : List Nat) : Nat := if l.take 1 = [47] then (if (l.drop 1).take 1 = [47] ∧ (l.drop 2).take 1 ≠ [47] then 2 else 1) else 0
theorem rootN_le (l : List Nat) : rootN l ≤ 2 := by unfold rootN; (repeat' split) <;> (first | lia | omega)
theorem rootN_take (l : List Nat) : l.take (rootN l) = List.replicate (rootN l) 47 := by
  unfold rootN
  by_cases h1 : l.take 1 = [47]
  · rw [if_pos h1]
    by_cases h2 : (l.drop 1).take 1 = [47] ∧ (l.drop 2).take 1 ≠ [47]
    · rw [if_pos h2]
      match l, h1, h2 with
      | [], h1, _ => simp at h1
      | [a], _, h2 => simp at h2
      | a :: b :: r, h1, h2 => simp at h1 h2; simp [h1, h2.1, List.replicate]
    · rw [if_neg h2, h1]; rfl
  · rw [if_neg h1]; simp
/-- what is left when the empty, dot and double dot pieces are worked off -/
noncomputable def stepN (r : Nat) (acc : List (List Nat)) (c : List Nat) : List (List Nat) :=
  if c = [] ∨ c = [46] then acc
  else if c ≠ [46, 46] ∨ (r = 0 ∧ acc = []) ∨ (acc ≠ [] ∧ acc[acc.length - 1]? = some [46, 46]) then acc ++ [c]
  else acc.dropLast
noncomputable def normC (r : Nat) (cs : List (List Nat)) : List (List Nat) := cs.foldl (stepN r) []
noncomputable def normS (l : List Nat) : List Nat :=
  if l = [] then [46] else
    let path := List.replicate (rootN l) 47 ++ joinS [47] (normC (rootN l) (splitS 47 (l.drop (rootN l))))
    if path = [] then [46] else path
theorem stepN_length (r : Nat) (acc : List (List Nat)) (c : List Nat) : (stepN r acc c).length ≤ acc.length + 1 := by
  unfold stepN
  (repeat' split) <;> simp <;> (first | lia | omega)
noncomputable def sumL (ps : List (List Nat)) : Nat := (ps.map List.length).sum
theorem sumL_append (a b : List (List Nat)) : sumL (a ++ b) = sumL a + sumL b := by simp [sumL]
theorem sumL_dropLast (a : List (List Nat)) : sumL a.dropLast ≤ sumL a := by
  induction a with
  | nil => simp [sumL]
  | cons x r ih =>
    cases r with
    | nil => simp [sumL]
    | cons y r => simp only [List.dropLast_cons_of_ne_nil (List.cons_ne_nil y r)]; simp [sumL] at ih ⊢; (clear x; (first | lia | omega))
theorem stepN_sum (r : Nat) (acc : List (List Nat)) (c : List Nat) : sumL (stepN r acc c) ≤ sumL acc + c.length := by
  unfold stepN
  split
  · (clear r; (first | lia | omega))
  · split
    · rw [sumL_append]; simp [sumL]
    · have := sumL_dropLast acc; (first | lia | omega)
theorem fold_bounds (r : Nat) : ∀ (cs acc : List (List Nat)), (cs.foldl (stepN r) acc).length ≤ acc.length + cs.length ∧ sumL (cs.foldl (stepN r) acc) ≤ sumL acc + sumL cs
  | [], acc => ⟨Nat.le_refl _, Nat.le_add_right _ _⟩
  | c :: cs, acc => by
    obtain ⟨h1, h2⟩ := fold_bounds r cs (stepN r acc c)
    have h3 := stepN_length r acc c
    have h4 := stepN_sum r acc c
    refine ⟨by rw [List.foldl_cons, List.length_cons]; (clear h4 h2; (first | lia | omega)), ?_⟩
    rw [List.foldl_cons]
    have : sumL (c :: cs) = c.length + sumL cs := by simp [sumL]
    (clear h3 h1; (first | lia | omega))
theorem splitS_sum (c : Nat) : ∀ l : List Nat, sumL (splitS c l) ≤ l.length
  | [] => by simp [splitS, sumL]
  | x :: r => by
    have ih := splitS_sum c r
    unfold splitS
    by_cases h : x = c
    · rw [if_pos h]; simp [sumL] at ih ⊢; (clear h x; (first | lia | omega))
    · rw [if_neg h]
      cases hs : splitS c r with
      | nil => simp [sumL]
      | cons p ps => rw [hs] at ih; simp [sumL] at ih ⊢; (clear hs h x c; (first | lia | omega))
theorem normC_take {r : Nat} {cs : List (List Nat)} {i : Nat} {c : List Nat} (h : cs[i]? = some c) : normC r (cs.take (i + 1)) = stepN r (normC r (cs.take i)) c := by
  unfold normC
  rw [List.take_add_one, h, List.foldl_append]; rfl
end PL

end
section
open PySem PySem.Calls PyProof.Rows
set_option Elab.async false
set_option linter.unusedVariables false
set_option linter.unusedSimpArgs false
set_option maxRecDepth 100000
namespace PL
section
variable {C : Cx} {X : XP} {σ : St} {Q : V → St → Prop}
/-- two lists, one behind the other: a new one, frozen -/
theorem Bin.add_list {v w : V} {vs ws : List V} (k : IsL σ v vs) (k2 : IsL σ w ws) (hn : vs.length + ws.length ≤ 16777216) (h : Q (.lst (vs ++ ws)) σ) : Bin C .Add v w Q X σ := by
  intro z₀ x y rx ry zs z s hz hR
  obtain ⟨a, items, n, rfl, p, q⟩ := k.obj rx hz hR
  obtain ⟨b, items2, n2, rfl, p2, q2⟩ := k2.obj ry hz hR
  refine PySem.P.add_list (n := n) (n2 := n2) p p2 ?_ (by rw [List.size_toArray, List.size_toArray, q.length, q2.length]; exact size_ok hn)
  rw [List.append_toArray]
  obtain ⟨R', le⟩ := hR.frozen (lstO (items ++ items2) 0) s.toks
  exact ⟨_, _, le, R', _, .lst put_self ((q.append q2).mono le), h⟩

theorem readsL {v : V} {vs : List V} (k : IsL σ v vs) {z₀ z zs : Z} {s : Shared} {x : Value} (r : Rep z₀ v x) (hz : Z.le z₀ z) (hR : R C zs σ z s) (p : plainVs vs = true) : ∃ as, Reads s.heap x (.list (toDs vs)) as := by
  obtain ⟨a, items, n, rfl, e, q⟩ := k.obj r hz hR
  obtain ⟨as, ra⟩ := reads_ofs hR.rh.hz q p
  exact ⟨_, .list e rfl rfl (by simpa using ra)⟩
end
/-- lists of texts -/
theorem eqv_texts : ∀ (a b : List (List Nat)), PyData.eqvAll (toDs (a.map (.txt false))) (toDs (b.map (.txt false))) = decide (a = b)
  | [], [] => rfl
  | [], _ :: _ => rfl
  | _ :: _, [] => rfl
  | x :: a, y :: b => by
    have ih := eqv_texts a b
    show (PyData.eqv (.str ⟨x.toArray⟩) (.str ⟨y.toArray⟩) && PyData.eqvAll (toDs (a.map (.txt false))) (toDs (b.map (.txt false)))) = _
    rw [ih]
    have : PyData.eqv (.str ⟨x.toArray⟩) (.str ⟨y.toArray⟩) = decide (x = y) := by
      show ((⟨x.toArray⟩ : Str) == ⟨y.toArray⟩) = _
      by_cases h : x = y
      · subst h; simp
      · have : (⟨x.toArray⟩ : Str) ≠ ⟨y.toArray⟩ := fun e => h (by simpa using congrArg Str.cps e)
        rw [beq_eq_false_iff_ne.mpr this]; simp [h]
    rw [this]
    by_cases h1 : x = y <;> by_cases h2 : a = b <;> simp [h1, h2]
theorem plain_texts {a : List (List Nat)} (h : ∀ p ∈ a, ∀ c ∈ p, c < 1114112) : plainVs (a.map (.txt false)) = true := by
  refine plainVs_all fun v hv => ?_
  obtain ⟨p, hp, rfl⟩ := List.mem_map.mp hv
  simp only [plainV, Bool.not_false, Bool.true_and, List.all_eq_true, decide_eq_true_eq]
  exact fun c hc => h p hp c hc
theorem deep_texts (a : List (List Nat)) : deepVs (a.map (V.txt false)) ≤ 0 := deepVs_le fun v hv => by
  obtain ⟨p, _, rfl⟩ := List.mem_map.mp hv
  exact Nat.le_refl _
end PL

end
section
open PySem PySem.Calls PyProof.Rows
set_option Elab.async false
set_option linter.unusedVariables false
set_option linter.unusedSimpArgs false
namespace PL
/-! plain laws of normpath -/
noncomputable def outS (r : Nat) (cs : List (List Nat)) : List Nat := if List.replicate r 47 ++ joinS [47] cs = [] then [46] else List.replicate r 47 ++ joinS [47] cs
theorem splitS_slash (c : Nat) (l : List Nat) : splitS c (c :: l) = [] :: splitS c l := by
  show (if c = c then _ else _) = _
  rw [if_pos rfl]
theorem splitS_rep (c : Nat) (l : List Nat) : ∀ s : Nat, splitS c (List.replicate s c ++ l) = List.replicate s [] ++ splitS c l
  | 0 => rfl
  | s + 1 => by rw [List.replicate_succ, List.cons_append, splitS_slash, splitS_rep c l s, List.replicate_succ, List.cons_append]
theorem step_nil (r : Nat) (acc : List (List Nat)) : stepN r acc [] = acc := by unfold stepN; rw [if_pos (.inl rfl)]
theorem step_dot (r : Nat) (acc : List (List Nat)) : stepN r acc [46] = acc := by unfold stepN; rw [if_pos (.inr rfl)]
theorem normC_rep (r : Nat) (ps : List (List Nat)) : ∀ k : Nat, normC r (List.replicate k [] ++ ps) = normC r ps
  | 0 => rfl
  | k + 1 => by
    have ih := normC_rep r ps k
    unfold normC at ih ⊢
    rw [List.replicate_succ, List.cons_append, List.foldl_cons, step_nil, ih]
theorem normS_eq (l : List Nat) : normS l = outS (rootN l) (normC (rootN l) (splitS 47 l)) := by
  have hs : splitS 47 l = List.replicate (rootN l) [] ++ splitS 47 (l.drop (rootN l)) := by
    conv => lhs; rw [← List.take_append_drop (rootN l) l, rootN_take]
    rw [splitS_rep]
  rw [hs, normC_rep]
  unfold normS
  by_cases h : l = []
  · subst h; rfl
  · rw [if_neg h]; rfl
noncomputable def leadN (l : List Nat) : Nat := (l.takeWhile (· == 47)).length
theorem rootN_lead (l : List Nat) : rootN l = if leadN l = 2 then 2 else if 0 < leadN l then 1 else 0 := by
  match l with
  | [] => rfl
  | [a] =>
    by_cases ha : a = 47
    · subst ha; rfl
    · simp [rootN, leadN, ha]
  | [a, b] =>
    by_cases ha : a = 47
    · subst ha
      by_cases hb : b = 47
      · subst hb; rfl
      · simp [rootN, leadN, hb]
    · simp [rootN, leadN, ha]
  | a :: b :: c :: t =>
    by_cases ha : a = 47
    · subst ha
      by_cases hb : b = 47
      · subst hb
        by_cases hc : c = 47
        · subst hc; simp [rootN, leadN]
        · simp [rootN, leadN, hc]
      · simp [rootN, leadN, hb]
    · simp [rootN, leadN, ha]
end PL

end
section
open PySem PySem.Calls PyProof.Rows
set_option Elab.async false
set_option linter.unusedVariables false
set_option linter.unusedSimpArgs false
set_option maxRecDepth 100000
namespace PL
section
variable {C : Cx} {X : XP} {σ : St}
theorem swaps_comp {elt : Expr} {gens : List Comprehension} {scope : Scope} {pos p : Pos} {x : Str} {n : Nat} {env : Env} :
    swapsWith (.ListComp elt gens scope pos) (some (.Name x p)) n env = pure (env.blockKind == .function && env.kindOf x == some .local && p.line == pos.line && !(scope.names.any fun (n, k) => n == x && (k == .local || k == .cell))) := rfl
/-- `x = [comp]` on one line, x local -/
theorem TS.assignComp {g : Gd} {n : Nat} {sc scope : Scope} {elt target iter : Expr} {ifs : List Expr} {pos p p' : Pos} {x : Str} {Q : Fl → St → Prop} (hIn : In C g n sc) (K : CompOK scope sc) (hk : sc.names.lookup x = some .local)
    (hl : (p'.line == pos.line) = true) (hn : (scope.names.any fun (n, k) => n == x && (k == .local || k == .cell)) = false)
    (h : TE C iter (CompH C g n sc scope target ifs elt fun σ1 ys H0 =>
      (Q .next ⟨setL σ1.loc x (.lst (ys)), H0⟩ ∨ ∀ a, Q .next ⟨setL σ1.loc x (.ref a), (a, .list (ys)) :: H0⟩)) X σ)
    (hs : ∀ x, foldedSetIterable iter C.env x = Pure.pure x := by intro _; rfl) : TS C (.Assign [.Name x p'] (.ListComp elt [⟨target, iter, ifs, 0⟩] scope pos) p) Q X σ := by
  intro z₀
  rw [exec_Assign_arm]
  refine TT.at_ ?_
  have e1 : swapsWithSole [Expr.Name x p'] (.ListComp elt [⟨target, iter, ifs, 0⟩] scope pos) p.line C.env = Pure.pure true := by
    have e0 : swapsWithSole [Expr.Name x p'] (.ListComp elt [⟨target, iter, ifs, 0⟩] scope pos) p.line C.env = swapsWith (.ListComp elt [⟨target, iter, ifs, 0⟩] scope pos) (some (.Name x p')) p.line C.env := by unfold swapsWithSole; rfl
    rw [e0, swaps_comp, hn, hl, (hIn.kind x).trans hk]
    have : (C.env.blockKind == ScopeKind.function) = true := by
      unfold Env.blockKind; rw [C.hk]; rfl
    rw [this]; rfl
  rw [e1]
  refine TT.bind (TT.pure fun z hz => ?_)
  refine TT.bind (m := evalThenUse _ _ _) (f := fun _ => Pure.pure Flow.next) ?_
  show TT C z (do let _ ← comprehension _ _ _ _ _ _ _ (some (PySem.assign (Expr.Name x p') C.env)); Pure.pure ()) _ X σ
  refine TT.bind (TT.mono (TT.listcompU (Q := fun σ' => Q .next σ') hIn K (h.mono ?_) hs) ?_)
  · rintro v σ1 ⟨α, xs, φ, f, L, H0, S, h1, h2, h3, h4, h5, h6, h7⟩
    exact ⟨α, xs, φ, f, L, H0, S, h1, h2, h3, h4, h5, h6, h7.imp (fun q => TAs.name (hIn.stL hk) q) fun q a => TAs.name (hIn.stL hk) (q a)⟩
  · intro z v σ' l q
    exact TT.pure fun z' _ => TT.pure fun z'' _ => ⟨.next, .next, q⟩
end
end PL

end
section
open PySem PySem.Calls PyProof.Rows
set_option Elab.async false
set_option linter.unusedVariables false
set_option linter.unusedSimpArgs false
set_option maxRecDepth 100000
namespace PL
section
variable {K : Type} [DecidableEq K]
end

section
variable {C : Cx} {X : XP} {σ : St} {Q : V → St → Prop} {K : Type} [DecidableEq K] {a : Addr} {kvs : List (K × V)} {knd : KeyKind C.g.prog C.g.w K} {kv : V} {k : K}
/-- `o[i] = v` -/
theorem TS.assignSub {o i e : Expr} {p' p : Pos} {Q : Fl → St → Prop} (h : TE C e (fun v σ1 => TE C o (fun ov σ2 => TE C i (fun iv σ3 => Put C ov iv v (fun σ4 => Q .next σ4) X σ3) X σ2) X σ1) X σ)
    (hs : swapsWith e (some (.Subscript o i p')) p.line C.env = Pure.pure false := by rfl) : TS C (.Assign [.Subscript o i p'] e p) Q X σ := by
  intro z₀ zs z s hz hR
  refine wpAny_Assign_Subscript ?_ hs
  refine wpAny_mono (h z₀ zs z s hz hR) ?_ fun _ _ x => x
  rintro v s1 ⟨z1, σ1, l1, R1, vv, rv, h1⟩
  refine wpAny_mono (h1 z1 zs z1 s1 (Z.le_refl _) R1) ?_ fun _ _ x => PX.le l1 x
  rintro ov s2 ⟨z2, σ2, l2, R2, vo, ro, h2⟩
  refine wpAny_mono (h2 z2 zs z2 s2 (Z.le_refl _) R2) ?_ fun _ _ x => PX.le (Z.le_trans l1 l2) x
  rintro iv s3 ⟨z3, σ3, l3, R3, vi, ri, h3⟩
  refine wpAny_mono (h3 z3 ov iv v (ro.mono l3) ri (rv.mono (Z.le_trans l2 l3)) zs z3 s3 (Z.le_refl _) R3) ?_ fun _ _ x => PX.le (Z.le_trans (Z.le_trans l1 l2) l3) x
  rintro ⟨⟩ s4 ⟨z4, σ4, l4, R4, q⟩
  exact ⟨z4, σ4, Z.le_trans (Z.le_trans (Z.le_trans l1 l2) l3) l4, R4, .next, .next, q⟩
end
end PL

end
section
open PySem PySem.Calls PyProof.Rows
set_option Elab.async false
set_option linter.unusedVariables false
set_option linter.unusedSimpArgs false
set_option linter.unusedSectionVars false
set_option maxRecDepth 100000
namespace PL
/-! a live list is frozen -/
inductive Rem (a : Addr) (o : AO) : Led → Led → Prop
  | head {t : Led} : Rem a o ((a, o) :: t) t
  | tail {p : Addr × AO} {t t' : Led} (h : Rem a o t t') : Rem a o (p :: t) (p :: t')
theorem Rem.mem {a : Addr} {o : AO} {H H' : Led} (u : Rem a o H H') : (a, o) ∈ H := by
  induction u with
  | head => exact List.mem_cons_self
  | tail _ ih => exact List.mem_cons_of_mem _ ih
theorem Rem.sub {a : Addr} {o : AO} {H H' : Led} (u : Rem a o H H') : H'.Sublist H := by
  induction u with
  | head => exact List.sublist_cons_self _ _
  | tail _ ih => exact ih.cons_cons _
theorem Rem.out {a : Addr} {o : AO} {H H' : Led} (u : Rem a o H H') (hn : (H.map (·.1)).Nodup) : a ∉ H'.map (·.1) := by
  induction u with
  | head => rw [List.map_cons, List.nodup_cons] at hn; exact hn.1
  | tail u' ih =>
    rw [List.map_cons, List.nodup_cons] at hn
    rw [List.map_cons, List.mem_cons]
    rintro (e | e)
    · exact hn.1 (e ▸ List.mem_map_of_mem (f := (·.1)) u'.mem)
    · exact ih hn.2 e
section
variable {C : Cx} {X : XP} {σ : St} {Q : V → St → Prop} {zs z : Z} {s : Shared}
theorem R.freezeL (hR : R C zs σ z s) {a : Addr} {vs : List V} {H' : Led} (u : Rem a (.list vs) σ.H H') : ∃ z', Z.le z z' ∧ R C zs ⟨σ.loc, H'⟩ z' s ∧ Rep z' (.lst vs) (.ref a) := by
  obtain ⟨⟨items, n, e, rl⟩, h0, h1⟩ := hR.rh.hH _ u.mem
  have hk : a ∈ σ.H.map (·.1) := List.mem_map_of_mem (f := (·.1)) u.mem
  have hR' : R C zs ⟨σ.loc, H'⟩ z s := hR.weaken (fun _ _ h => h) u.sub
  have ap : Apart C zs ⟨σ.loc, H'⟩ a := ⟨h1, fun q => hR.locFree.2.2 (q ▸ hk), u.out hR.rh.nodup, fun p hp q => (hR.cellsOk p hp).2.2.2.2 (q ▸ hk)⟩
  have le := Z.le_put hR'.rh e
  exact ⟨_, le, hR'.freeze e ap, .lst put_self (rl.mono le)⟩
theorem TE.freeze {e : Expr} (h : TE C e (fun v σ1 => ∃ a vs H', v = .ref a ∧ Rem a (.list vs) σ1.H H' ∧ Q (.lst vs) ⟨σ1.loc, H'⟩) X σ) : TE C e Q X σ := by
  intro z₀ zs z s hz hR
  refine wpAny_mono (h z₀ zs z s hz hR) ?_ fun _ _ x => x
  rintro v s1 ⟨z1, σ1, l1, R1, _, rv, a, vs, H', rfl, u, q⟩
  have rvq := rv.e; clear rv; obtain ⟨_, rfl⟩ := rvq
  obtain ⟨z2, l2, R2, r2⟩ := R1.freezeL u
  exact ⟨z2, _, Z.le_trans l1 l2, R2, _, r2, q⟩
/-! lists: a new live one -/
theorem CallV.fresh {zs z : Z} {s : Shared} (hR : R C zs σ z s) {h' : Heap} {t n : Nat} {items : List Value} {vs : List V} (k : ∀ b o, s.heap.get? b = some o → h'.get? b = some o) (e : h'.get? s.heap.objs.size = some (lstO items n)) (rl : RepL z vs items)
    (h : ∀ a, Q (.ref a) ⟨σ.loc, (a, .list vs) :: σ.H⟩) : Post C zs z (PVal Q) (.ref s.heap.objs.size) { s with heap := h', toks := t } := by
  have R' := hR.grow (t := t) k
  refine ⟨z, ⟨σ.loc, (s.heap.objs.size, .list vs) :: σ.H⟩, Z.le_refl _, R'.ledger (a := s.heap.objs.size) (o := .list vs) ⟨items, n, e, rl⟩ (hR.rh.fresh_z (Nat.le_refl _)) ?_, _, .ref _, h _⟩
  exact hR.apart_new (Nat.le_refl _)
theorem call_list_lst {v : V} {vs : List V} (k : IsL σ v vs) (hn : vs.length ≤ 16777216) (h : ∀ a, Q (.ref a) ⟨σ.loc, (a, .list vs) :: σ.H⟩) : CallV C (.type "list") [v] Q X σ := by
  refine CallV.toks fun z₀ zs z s xs hz hR r => ?_
  have rq := RepL.inv r; clear r; obtain ⟨_, _, rfl, r, t⟩ := rq
  cases t.inv0; clear t
  obtain ⟨a, items, n, rfl, p, q⟩ := k.obj r (Z.le_refl _) hR
  refine call_list_seq a (T := "list") (.inl rfl) p rfl rfl (fun h' c' k' e => ?_) (by rw [List.size_toArray, q.length]; exact size_ok hn)
  exact CallV.fresh hR (t := s.toks) k' e q h
end
end PL

end
section
open PySem PySem.Calls PyProof.Rows
set_option Elab.async false
set_option linter.unusedVariables false
set_option linter.unusedSimpArgs false
set_option linter.unusedSectionVars false
set_option maxRecDepth 100000
namespace PL
section
variable {C : Cx} {X : XP} {σ : St} {Q : V → St → Prop} {zs z : Z} {s : Shared}
/-! `list(range(a, b))` -/
/-! `x in list` -/
theorem depth_min {A : Around} {n m : Nat} (h : A.units ≤ 9000) (hn : n ≤ 64) : A.units + 1 + min n m < cLine := by
  have : min n m ≤ n := Nat.min_le_left _ _
  show _ < 9900; (clear this; (first | lia | omega))
theorem in_units (C : Cx) : C.A.units ≤ 9000 := by have := C.hunits; (first | lia | omega)
theorem Cmp.in_list {x v : V} {vs : List V} (k : IsL σ v vs) (hx : plainV x = true) (ha : plainVs vs = true) (da : deepVs vs ≤ 63) (h : Q (.bool ((toDs vs).any fun y => PyData.eqv y (toD x))) σ) : Cmp C .In x v Q X σ := by
  intro z₀ p q rp rq zs z s hz hR
  obtain ⟨as, ra⟩ := readsL k rq hz hR ha
  obtain ⟨bs, rb⟩ := reads_of hR.rh.hz (rp.mono hz) hx
  exact SeqAt.in_list_reads ra rb (canLays_of ha) (canLay_of hx) (depth_min (in_units C) (by rw [depths_of]; (clear rb bs ra as hR hz s z zs rq rp q p z₀ h ha hx k v x; (first | lia | omega)))) (PVal.same hR (.bool _) h)
theorem Cmp.notIn_list {x v : V} {vs : List V} (k : IsL σ v vs) (hx : plainV x = true) (ha : plainVs vs = true) (da : deepVs vs ≤ 63) (h : Q (.bool (!(toDs vs).any fun y => PyData.eqv y (toD x))) σ) : Cmp C .NotIn x v Q X σ := by
  intro z₀ p q rp rq zs z s hz hR
  obtain ⟨as, ra⟩ := readsL k rq hz hR ha
  obtain ⟨bs, rb⟩ := reads_of hR.rh.hz (rp.mono hz) hx
  exact SeqAt.notIn_list_reads ra rb (canLays_of ha) (canLay_of hx) (depth_min (in_units C) (by rw [depths_of]; (clear rb bs ra as hR hz s z zs rq rp q p z₀ h ha hx k v x; (first | lia | omega)))) (PVal.same hR (.bool _) h)
/-! `l += m` -/
end
end PL

end
section
open PySem PySem.Calls PyProof.Rows
set_option Elab.async false
set_option linter.unusedVariables false
set_option linter.unusedSimpArgs false
set_option linter.unusedSectionVars false
set_option maxRecDepth 100000
namespace PL
section
variable {C : Cx} {X : XP} {σ : St} {Q : V → St → Prop} {zs z : Z} {s : Shared}
/-! places from the end -/
/-! `d.get(k, other)` -/
/-! `str(n)` -/
end
end PL

end
section
open PySem PySem.Calls PyProof.Rows
set_option Elab.async false
set_option linter.unusedVariables false
set_option linter.unusedSimpArgs false
set_option linter.unusedSectionVars false
set_option maxRecDepth 100000
namespace PL
/-! a number's signs -/
/-! a text read sign by sign -/
end PL

end
section
open PySem PySem.Calls PyProof.Rows
set_option Elab.async false
set_option linter.unusedVariables false
set_option linter.unusedSimpArgs false
set_option linter.unusedSectionVars false
set_option maxRecDepth 100000
namespace PL
/-! normal forms -/
theorem splitS_free (c : Nat) : ∀ {l p : List Nat}, p ∈ splitS c l → c ∉ p
  | [], p, h => by simp [splitS] at h; subst h; simp
  | x :: r, p, h => by
    unfold splitS at h
    split at h
    · rcases List.mem_cons.mp h with e | h
      · subst e; simp
      · exact splitS_free c h
    · rename_i hx
      have ih := fun q (hq : q ∈ splitS c r) => splitS_free c (l := r) (p := q) hq
      cases e : splitS c r with
      | nil => exact absurd e (splitS_ne c r)
      | cons q qs =>
        rw [e] at h ih
        rcases List.mem_cons.mp h with e' | h
        · subst e'
          rw [List.mem_cons, not_or]
          exact ⟨Ne.symm hx, ih q List.mem_cons_self⟩
        · exact ih p (List.mem_cons_of_mem _ h)
noncomputable def nameN (p : List Nat) : Prop := p ≠ [] ∧ p ≠ [46] ∧ p ≠ [46, 46] ∧ 47 ∉ p
noncomputable abbrev dd : List Nat := [46, 46]
theorem step_name {r : Nat} {acc : List (List Nat)} {n : List Nat} (h : nameN n) : stepN r acc n = acc ++ [n] := by
  unfold stepN
  rw [if_neg (not_or.mpr ⟨h.1, h.2.1⟩), if_pos (.inl h.2.2.1)]
theorem step_dd0 {k : Nat} : stepN 0 (List.replicate k dd) dd = List.replicate (k + 1) dd := by
  unfold stepN
  rw [if_neg (by decide), if_pos, List.replicate_succ']
  cases k with
  | zero => exact .inr (.inl ⟨rfl, rfl⟩)
  | succ k => exact .inr (.inr ⟨by simp, by rw [List.length_replicate, List.getElem?_replicate, if_pos (by (first | lia | omega))]⟩)
theorem fold_names {r : Nat} : ∀ (ns acc : List (List Nat)), (∀ n ∈ ns, nameN n) → ns.foldl (stepN r) acc = acc ++ ns
  | [], acc, _ => by simp
  | n :: ns, acc, h => by
    rw [List.foldl_cons, step_name (h n List.mem_cons_self), fold_names ns _ fun m hm => h m (List.mem_cons_of_mem _ hm)]; simp
theorem joinS_head {cs : List (List Nat)} (h : ∀ c ∈ cs, c ≠ [] ∧ 47 ∉ c) : (joinS [47] cs).take 1 ≠ [47] := by
  cases cs with
  | nil => simp [joinS]
  | cons c r =>
    obtain ⟨h1, h2⟩ := h c List.mem_cons_self
    obtain ⟨x, t, rfl⟩ := List.exists_cons_of_ne_nil h1
    have hx : x ≠ 47 := fun e => h2 (by rw [e]; simp)
    cases r with
    | nil => simpa [joinS] using hx
    | cons d r => simpa [joinS] using hx
theorem rootN_rep {r : Nat} (hr : r ≤ 2) {l : List Nat} (h : l.take 1 ≠ [47]) : rootN (List.replicate r 47 ++ l) = r := by
  match r, hr with
  | 0, _ => unfold rootN; rw [List.replicate_zero, List.nil_append, if_neg h]
  | 1, _ =>
    have e : (List.replicate 1 47 ++ l) = 47 :: l := rfl
    simp only [rootN, e, List.take_succ_cons, List.take_zero, List.drop_succ_cons, List.drop_zero]
    simp [h]
  | 2, _ =>
    have e : (List.replicate 2 47 ++ l) = 47 :: 47 :: l := rfl
    simp only [rootN, e, List.take_succ_cons, List.take_zero, List.drop_succ_cons, List.drop_zero]
    simp [h]
end PL

end
section
open PySem PySem.Calls PyProof.Rows
set_option Elab.async false
set_option linter.unusedVariables false
set_option linter.unusedSimpArgs false
set_option linter.unusedSectionVars false
set_option maxRecDepth 100000
namespace PL
section
variable {K : Type} [DecidableEq K]
end
theorem step_up {r : Nat} {cs : List (List Nat)} {p : List Nat} (h : nameN p) : stepN r (cs ++ [p]) dd = cs := by
  unfold stepN
  rw [if_neg (by decide), if_neg, List.dropLast_concat]
  rintro (q | ⟨_, q⟩ | ⟨_, q⟩)
  · exact q rfl
  · simp at q
  · rw [List.length_append, List.length_singleton, Nat.add_sub_cancel, List.getElem?_concat_length] at q
    exact h.2.2.1 (Option.some.inj q)
end PL

end
section
open PySem PySem.Calls PyProof.Rows
set_option Elab.async false
set_option linter.unusedVariables false
set_option linter.unusedSimpArgs false
set_option linter.unusedSectionVars false
set_option maxRecDepth 100000
namespace PL
/-! displays of written numbers -/
section
variable {C : Cx} {X : XP} {σ : St}
end
end PL

end
section
open PySem PySem.Calls PyProof.Rows
set_option Elab.async false
set_option linter.unusedVariables false
set_option linter.unusedSimpArgs false
set_option linter.unusedSectionVars false
set_option maxRecDepth 100000
namespace PL
section
open Builtin
theorem isInst_tuple {b : Array UInt8} {t : Tok} : isInstance (.bytes b t) (.type "tuple") = pure false := by
  have e : isInstance (.bytes b t) (.type "tuple") = isSubtype (.type "bytes") (.type "tuple") := rfl
  rw [e, isSubtype_type]; kernel_rfl
theorem bytes_startswith {l : List Nat} {c : Nat} (hl : ∀ x ∈ l, x < 256) (hc : c < 256) {t u : Tok} : Gives («bytes.startswith» ⟨[.bytes (l.map UInt8.ofNat).toArray t, .bytes #[UInt8.ofNat c] u], []⟩) (.val (.bool (headIs c l))) := by
  refine .of_wp fun M A E s Q hq => ?_
  show wpAny M A (isInstance (.bytes #[UInt8.ofNat c] u) (.type "tuple") >>= fun r => _) _ E s
  refine wpAny_bind (wpAny_of_eq isInst_tuple ?_)
  show wpAny M A (Bytes.buffer? "bytes.startswith" (.bytes #[UInt8.ofNat c] u) >>= fun r => _) _ E s
  refine wpAny_bind (wpAny_of_eq PySem.W.KBy.buffer_eq ?_)
  refine wpAny_pure ⟨_, rfl, ?_⟩
  have e : (if (min ((l.map UInt8.ofNat).toArray.size : Int) (if ((l.map UInt8.ofNat).toArray.size : Int) < 0 then max 0 ((l.map UInt8.ofNat).toArray.size + (l.map UInt8.ofNat).toArray.size : Int) else (l.map UInt8.ofNat).toArray.size)) - 0 < (#[UInt8.ofNat c] : Array UInt8).size then false
      else (l.map UInt8.ofNat).toArray.extract 0 (0 + (#[UInt8.ofNat c] : Array UInt8).size) == #[UInt8.ofNat c]) = headIs c l := by
    have hn : ¬ (((l.map UInt8.ofNat).toArray.size : Int) < 0) := by (clear hq Q s E A M u t hc hl c; (first | lia | omega))
    rw [if_neg hn, Int.min_self]
    cases l with
    | nil => rfl
    | cons x r =>
      rw [if_neg (by simp; (clear hn hq hl Q s E A M u t hc x c; (first | lia | omega))), Bool.eq_iff_iff]
      unfold headIs
      rw [extract_one]
      simp only [List.map_cons, List.getElem?_cons_zero, Option.some.injEq, List.head?_cons, beq_iff_eq]
      constructor
      · intro h; exact ofNat_inj (hl x List.mem_cons_self) hc h
      · intro h; rw [h]
  have hq : Q (.bool _) s := hq
  rw [← e] at hq
  exact hq
theorem bytes_endswith {l : List Nat} {c : Nat} (hl : ∀ x ∈ l, x < 256) (hc : c < 256) {t u : Tok} : Gives («bytes.endswith» ⟨[.bytes (l.map UInt8.ofNat).toArray t, .bytes #[UInt8.ofNat c] u], []⟩) (.val (.bool (lastIs c l))) := by
  refine .of_wp fun M A E s Q hq => ?_
  show wpAny M A (isInstance (.bytes #[UInt8.ofNat c] u) (.type "tuple") >>= fun r => _) _ E s
  refine wpAny_bind (wpAny_of_eq isInst_tuple ?_)
  show wpAny M A (Bytes.buffer? "bytes.endswith" (.bytes #[UInt8.ofNat c] u) >>= fun r => _) _ E s
  refine wpAny_bind (wpAny_of_eq PySem.W.KBy.buffer_eq ?_)
  refine wpAny_pure ⟨_, rfl, ?_⟩
  have e : (if (min ((l.map UInt8.ofNat).toArray.size : Int) (if ((l.map UInt8.ofNat).toArray.size : Int) < 0 then max 0 ((l.map UInt8.ofNat).toArray.size + (l.map UInt8.ofNat).toArray.size : Int) else (l.map UInt8.ofNat).toArray.size)) - 0 < (#[UInt8.ofNat c] : Array UInt8).size then false
      else (l.map UInt8.ofNat).toArray.extract ((min ((l.map UInt8.ofNat).toArray.size : Int) (if ((l.map UInt8.ofNat).toArray.size : Int) < 0 then max 0 ((l.map UInt8.ofNat).toArray.size + (l.map UInt8.ofNat).toArray.size : Int) else (l.map UInt8.ofNat).toArray.size)).toNat - (#[UInt8.ofNat c] : Array UInt8).size)
        (min ((l.map UInt8.ofNat).toArray.size : Int) (if ((l.map UInt8.ofNat).toArray.size : Int) < 0 then max 0 ((l.map UInt8.ofNat).toArray.size + (l.map UInt8.ofNat).toArray.size : Int) else (l.map UInt8.ofNat).toArray.size)).toNat == #[UInt8.ofNat c]) = lastIs c l := by
    have hn : ¬ (((l.map UInt8.ofNat).toArray.size : Int) < 0) := by (clear hq Q s E A M u t hc hl c; (first | lia | omega))
    rw [if_neg hn, Int.min_self]
    rcases List.eq_nil_or_concat l with h0 | ⟨r, x, h0⟩
    · subst h0; rfl
    · rw [List.concat_eq_append] at h0
      subst h0
      have hs : ((r ++ [x]).map UInt8.ofNat).toArray.size = r.length + 1 := by simp
      rw [if_neg (by simp; (clear hs hn hq hl Q s E A M u t hc x c; (first | lia | omega))), Bool.eq_iff_iff]
      unfold lastIs
      have e2 : ((((r ++ [x]).map UInt8.ofNat).toArray.size : Int)).toNat = (r.length + 1 - (#[UInt8.ofNat c] : Array UInt8).size) + (#[UInt8.ofNat c] : Array UInt8).size := by rw [hs]; simp
      have e3 : ((((r ++ [x]).map UInt8.ofNat).toArray.size : Int)).toNat - (#[UInt8.ofNat c] : Array UInt8).size = r.length + 1 - (#[UInt8.ofNat c] : Array UInt8).size := by rw [hs]; simp
      rw [e3, e2, extract_one]
      simp only [List.size_toArray, List.length_singleton, Nat.add_sub_cancel]
      rw [List.map_append, List.getElem?_append_right (by simp), List.length_map, Nat.sub_self]
      simp only [List.map_cons, List.map_nil, List.getElem?_cons_zero, Option.some.injEq, List.getLast?_append, List.getLast?_singleton, Option.some_or, beq_iff_eq]
      constructor
      · intro h; exact ofNat_inj (hl x (by simp)) hc h
      · intro h; rw [h]
  have hq : Q (.bool _) s := hq
  rw [← e] at hq
  exact hq
end
theorem noI_bytes_add : typeLookup (.type "bytes") (dunderI "add") = pure none := by rw [typeLookup_type, builtinLookup_eq_fast]; kernel_rfl
section
variable {C : Cx} {X : XP} {σ : St} {Q : V → St → Prop} {o : Bool} {l m : List Nat} {c : Nat}
theorem call_startswith (h : Q (.bool (headIs c l)) σ) : CallV C (.builtin (tyOf o ++ ".startswith")) [.txt o l, .txt o [c]] Q X σ := by
  cases o
  · exact call_startswith_str h
  · refine CallV.toks fun z₀ zs z s xs hz hR r => ?_
    have rq := RepL.inv r; clear r; obtain ⟨_, _, rfl, r1, r⟩ := rq
    have r1q := r1.e; clear r1; obtain ⟨t, rfl, hl⟩ := r1q
    have rq := RepL.inv r; clear r; obtain ⟨_, _, rfl, r2, r⟩ := rq
    have r2q := r2.e; clear r2; obtain ⟨u, rfl, hc⟩ := r2q
    cases r.inv0; clear r
    exact call_gives PySem.W.FB.slot_bytes_startswith (PySem.W.typeIs_bytes _ _ _) PySem.W.FB.entry_bytes_startswith (PySem.W.FB.args_bytes_startswith_2 _ _) (bytes_startswith hl (hc c List.mem_cons_self)) (PVal.same hR (.bool _) h)
theorem call_endswith (h : Q (.bool (lastIs c l)) σ) : CallV C (.builtin (tyOf o ++ ".endswith")) [.txt o l, .txt o [c]] Q X σ := by
  cases o
  · exact call_endswith_str h
  · refine CallV.toks fun z₀ zs z s xs hz hR r => ?_
    have rq := RepL.inv r; clear r; obtain ⟨_, _, rfl, r1, r⟩ := rq
    have r1q := r1.e; clear r1; obtain ⟨t, rfl, hl⟩ := r1q
    have rq := RepL.inv r; clear r; obtain ⟨_, _, rfl, r2, r⟩ := rq
    have r2q := r2.e; clear r2; obtain ⟨u, rfl, hc⟩ := r2q
    cases r.inv0; clear r
    exact call_gives PySem.W.FB.slot_bytes_endswith (PySem.W.typeIs_bytes _ _ _) PySem.W.FB.entry_bytes_endswith (PySem.W.FB.args_bytes_endswith_2 _ _) (bytes_endswith hl (hc c List.mem_cons_self)) (PVal.same hR (.bool _) h)
theorem Meth.startswith : Meth C σ (.txt o l) "startswith" (tyOf o ++ ".startswith") := by
  cases o
  · exact Meth.str PySem.F.slot_str_startswith PySem.F.type_str_startswith
  · exact Meth.bytes PySem.W.FB.slot_bytes_startswith PySem.W.FB.type_bytes_startswith
theorem Meth.endswith : Meth C σ (.txt o l) "endswith" (tyOf o ++ ".endswith") := by
  cases o
  · exact Meth.str PySem.F.slot_str_endswith PySem.F.type_str_endswith
  · exact Meth.bytes PySem.W.FB.slot_bytes_endswith PySem.W.FB.type_bytes_endswith
theorem TE.startswith (o : Bool) {e : Expr} {args : List Expr} {apos pos : Pos} (h : TE C e (fun ov σ1 => ∃ l, ov = .txt o l ∧ TArgs C args (fun vs σ2 => ∃ c, vs = [.txt o [c]] ∧ Q (.bool (headIs c l)) σ2) X σ1) X σ)
    (hp : (backTo pos (starEach args C.env)).any (·.1) = false := by rfl) (hb : attributeBase e "startswith" C.env (eval e C.env) = eval e C.env := by rfl)
    (hf : methodCallForm (args.length + 0) (backTo pos (starEach args C.env)) [] = true := by rfl) (hl : (apos.endLine == pos.line) = true := by rfl) : TE C (.Call (.Attribute e "startswith" apos) args [] pos) Q X σ := by
  refine TE.meth (id := tyOf o ++ ".startswith") (h.mono ?_) hp hb hf hl
  rintro ov σ1 ⟨l, rfl, h⟩
  refine ⟨Meth.startswith, fun p z₀ => (h p z₀).mono ?_⟩
  rintro z xs σ2 _ ⟨vs, r, c, rfl, q⟩
  exact ⟨_, r, call_startswith q⟩
theorem TE.endswith (o : Bool) {e : Expr} {args : List Expr} {apos pos : Pos} (h : TE C e (fun ov σ1 => ∃ l, ov = .txt o l ∧ TArgs C args (fun vs σ2 => ∃ c, vs = [.txt o [c]] ∧ Q (.bool (lastIs c l)) σ2) X σ1) X σ)
    (hp : (backTo pos (starEach args C.env)).any (·.1) = false := by rfl) (hb : attributeBase e "endswith" C.env (eval e C.env) = eval e C.env := by rfl)
    (hf : methodCallForm (args.length + 0) (backTo pos (starEach args C.env)) [] = true := by rfl) (hl : (apos.endLine == pos.line) = true := by rfl) : TE C (.Call (.Attribute e "endswith" apos) args [] pos) Q X σ := by
  refine TE.meth (id := tyOf o ++ ".endswith") (h.mono ?_) hp hb hf hl
  rintro ov σ1 ⟨l, rfl, h⟩
  refine ⟨Meth.endswith, fun p z₀ => (h p z₀).mono ?_⟩
  rintro z xs σ2 _ ⟨vs, r, c, rfl, q⟩
  exact ⟨_, r, call_endswith q⟩
theorem Inp.add_txt (hn : l.length + m.length ≤ 16777216) (h : Q (.txt o (l ++ m)) σ) : Inp C .Add (.txt o l) (.txt o m) Q X σ := by
  cases o
  · exact Inp.add_str hn h
  · intro z₀ x y rx ry zs z s hz hR
    have rxq := rx.e; clear rx; obtain ⟨t, rfl, hl⟩ := rxq
    have ryq := ry.e; clear ry; obtain ⟨u, rfl, hm⟩ := ryq
    refine wpAny_inplaceOp_concat (PySem.W.typeIs_bytes _ _ _) (PySem.W.typeIs_bytes _ _ _) noI_bytes_add PySem.W.KBy.noFill_bytes_add PySem.W.KBy.seq_bytes_add ?_
    refine call_gives PySem.W.FB.slot_bytes_add (PySem.W.typeIs_bytes _ _ _) PySem.W.FB.entry_bytes_add (PySem.W.FB.args_bytes_add_2 _ _) (PySem.W.KBy.gives_bytes_add (PySem.W.KBy.tooLong_not (by simpa using hn))) ?_
    have fin : ∀ t' k, Post C zs z (PVal Q) (.bytes ((l ++ m).map UInt8.ofNat).toArray t') { s with toks := k } := fun t' k => PVal.toks hR (.bytes _ _ fun c hc => (List.mem_append.mp hc).elim (hl c) (hm c)) h
    by_cases hb : (l.map UInt8.ofNat).toArray.isEmpty = true
    · rw [if_pos hb]
      have e : l = [] := by simpa using hb
      subst e
      exact fin u s.toks
    · rw [if_neg hb]
      by_cases hc : (m.map UInt8.ofNat).toArray.isEmpty = true
      · rw [if_pos hc]
        have e : m = [] := by simpa using hc
        subst e
        rw [List.append_nil] at fin
        exact fin t s.toks
      · rw [if_neg hc]
        refine ⟨by simp; exact size_ok hn, ?_⟩
        rw [List.append_toArray, ← List.map_append]
        exact fin s.toks (s.toks + 1)
/-- a try whose body does not raise -/
theorem TS.tryOK {body orelse : List Stmt} {h₀ : ExceptHandler} {hs : List ExceptHandler} {pos : Pos} {Q : Fl → St → Prop} (h : TSs C body (Nx C orelse Q X) X0 σ) : TS C (.Try body (h₀ :: hs) orelse [] pos) Q X σ := by
  intro z₀ zs z s hz hR
  refine wpAny_Try_except ?_
  refine wpAny_mono (h z₀ zs z s hz hR) ?_ fun _ _ x => x.absurd
  rintro f s1 ⟨z1, σ1, l1, R1, fl, rf, q⟩
  cases rf with
  | next =>
    refine wpAny_mono (q z1 zs z1 s1 (Z.le_refl _) R1) ?_ fun _ _ x => PX.le l1 x
    rintro f s2 ⟨z2, σ2, l2, R2, q2⟩
    exact ⟨z2, σ2, Z.le_trans l1 l2, R2, q2⟩
  | brk => exact ⟨z1, σ1, l1, R1, .brk, .brk, q⟩
  | cont => exact ⟨z1, σ1, l1, R1, .cont, .cont, q⟩
  | ret rv => exact ⟨z1, σ1, l1, R1, .ret _, .ret rv, q⟩
end
end PL

end
section
open PySem PySem.Calls PyProof.Rows
set_option Elab.async false
set_option linter.unusedVariables false
set_option linter.unusedSimpArgs false
set_option linter.unusedSectionVars false
set_option maxRecDepth 100000
namespace PL
/-! what join answers -/
noncomputable def jn1 (a b : List Nat) : List Nat := if headIs 47 b = true ∨ a = [] then b else if lastIs 47 a = true then a ++ b else a ++ ([47] ++ b)
noncomputable def joinP (a : List Nat) (bs : List (List Nat)) : List Nat := bs.foldl jn1 a
theorem jn1_len (a b : List Nat) : (jn1 a b).length ≤ a.length + b.length + 1 := by
  unfold jn1
  split
  · (first | lia | omega)
  · split
    · rw [List.length_append]; (first | lia | omega)
    · rw [List.length_append, List.length_append, List.length_singleton]; (first | lia | omega)
theorem joinP_len : ∀ (bs : List (List Nat)) (a : List Nat), (joinP a bs).length ≤ a.length + sumL bs + bs.length
  | [], a => by simp [joinP, sumL]
  | b :: bs, a => by
    have h1 := joinP_len bs (jn1 a b)
    have h2 := jn1_len a b
    have e : sumL (b :: bs) = b.length + sumL bs := by simp [sumL]
    show (joinP (jn1 a b) bs).length ≤ _
    rw [e, List.length_cons]; (clear e; (first | lia | omega))
theorem joinP_take {a : List Nat} {bs : List (List Nat)} {i : Nat} {b : List Nat} (h : bs[i]? = some b) : joinP a (bs.take (i + 1)) = jn1 (joinP a (bs.take i)) b := by
  unfold joinP
  rw [List.take_add_one, h, List.foldl_append]; rfl
theorem sumL_take (bs : List (List Nat)) (i : Nat) : sumL (bs.take i) ≤ sumL bs := by
  conv => rhs; rw [← List.take_append_drop i bs]
  rw [sumL_append]; exact Nat.le_add_right _ _
theorem sumL_mem {bs : List (List Nat)} {b : List Nat} (h : b ∈ bs) : b.length ≤ sumL bs := by
  induction bs with
  | nil => cases h
  | cons c r ih =>
    have e : sumL (c :: r) = c.length + sumL r := by simp [sumL]
    rcases List.mem_cons.mp h with q | h
    · subst q; (clear h ih; (first | lia | omega))
    · have := ih h; (first | lia | omega)
theorem startS {x y : Str} {a b : V} {r : List V} {H : Led} (h : x ≠ y) : Le ⟨[(x, a), (y, b)], H⟩ ⟨bindV ([x].zip (a :: r) ++ [(y, b)]) [], H⟩ := start2 h
section
variable {C : Cx} {X : XP} {σ : St} {zs z z₀ : Z} {I : Addr} {vs : List V} {S : Led → Prop} {J : Nat → Obj → Prop} {E : Value → Shared → Prop}
theorem wp_draw (WO : WalkOf C.g C.A (fun z H => Z.le z₀ z ∧ S H) vs J) (hI : zs I = none) (hfr : FrOK C.outer zs) (lz : Z.le z₀ z) (hS : S σ.H) : ∀ (n i : Nat) (s : Shared) (o : Obj) (Q : List Value → Shared → Prop),
    J i o → R C (zs.put I o) σ z s → i + n ≤ vs.length → (∀ s' o' xs, J (i + n) o' → R C (zs.put I o') σ z s' → RepL z ((vs.drop i).take n) xs → Q xs s') → wpAny C.M C.A (draw (.ref I) n) Q E s
  | 0, i, s, o, Q, hJ, hR, _, hQ => by
    show wpAny _ _ (pure []) Q E s
    exact wpAny_pure (hQ s o [] hJ hR (by simpa using RepL.nil))
  | n + 1, i, s, o, Q, hJ, hR, hle, hQ => by
    obtain ⟨fs, hfs⟩ := WO.fields _ _ hJ
    have hv : vs[i]? = some vs[i] := List.getElem?_eq_getElem (by (clear hfs fs hQ hR hJ Q o s hS lz hfr hI WO; (first | lia | omega)))
    show wpAny _ _ (pyNext (.ref I) >>= _) Q E s
    refine wpAny_bind (WO.item _ _ _ s I o i vs[i] _ _ hJ hv hR.rh ⟨lz, hS⟩ (hR.rh.hidden put_self (Stays.fields hfs)) fun h' t o' val e1 hJ' hsb rv => ?_)
    have R' : R C (zs.put I o') σ z { s with heap := h', toks := t } := hR.iter hI hfr (Stays.fields hfs) hsb.extBut e1
    refine wpAny_bind (wpAny_holding (wp_draw WO hI hfr lz hS n (i + 1) _ o' _ hJ' R' (by (clear R' rv hsb hJ' e1 val o' t h' hv hfs fs hQ hR hJ Q o s hS lz hfr hI WO; (first | lia | omega))) fun s2 o2 xs hJ2 R2 rl => wpAny_pure ?_))
    refine hQ s2 o2 (val :: xs) (by rw [show i + (n + 1) = i + 1 + n by (clear rl R2 hJ2 xs o2 s2 R' rv hsb hJ' e1 val o' t h' hv hfs fs hQ hle hR hJ Q o s hS lz hfr hI WO; (first | lia | omega))]; exact hJ2) R2 ?_
    rw [List.drop_eq_getElem_cons (by (clear rl R2 hJ2 xs o2 s2 R' rv hsb hJ' e1 val o' t h' hv hfs fs hQ hR hJ Q o s hS lz hfr hI WO; (first | lia | omega)) : i < vs.length), List.take_succ_cons]
    exact .cons rv rl
end
section
variable {C : Cx} {X : XP} {σ : St}
/-- what can be walked over falls into names -/
theorem TAs.unpack {ts : List Expr} {k : Nat} {p : Pos} {v : V} {vs : List V} {S : Led → Prop} {T : String} {f : Value} {Q : St → Prop} (hh : C.A.handled = none) (W : Walk C v vs S) (hS : S σ.H) (hT : ∀ zs z s x, R C zs σ z s → Rep z v x → s.TypeIs x T)
    (hl : typeLookup (.type T) "__iter__" = pure (some f)) (hn : ts.length = vs.length) (h : TIn C ts vs Q X σ)
    (he : (assignEach ts C.env).length = ts.length := by rfl) (hstar : (assignEach ts C.env).findIdx? (·.1) = none := by rfl) : TAs C (.Tuple ts k p) v Q X σ := by
  intro z₀ x r zs z s hz hR
  obtain ⟨J, WO, st⟩ := W.start z x (r.mono hz)
  rw [arm_assign_Tuple]
  refine wpAny_bind (wpAny_standAt ?_)
  unfold PySem.unpack
  refine wpAny_bind (wpAny_holding ?_)
  rw [hstar]
  unfold unpackItems
  refine wpAny_bind ?_
  unfold notIterableAtAll
  refine wpAny_bind (wpAny_specialOf (hT _ _ _ _ hR (r.mono hz)) hl ?_)
  refine wpAny_pure ?_
  simp only [Bool.false_eq_true, if_false]
  refine wpAny_bind (wpAny_holding (st zs z σ s _ _ (Z.le_refl _) hR hS fun o hJ hfr => ?_))
  generalize hI : s.heap.objs.size = I
  have zsI : zs I = none := hR.rh.fresh_zs (Nat.le_of_eq hI)
  have R2 : R C (zs.put I o) σ z { s with heap := s.heap.push o } := by
    refine (hR.push' o).hideAt ?_ (hR.rh.fresh_z (Nat.le_of_eq hI)) (hR.apart_new (Nat.le_of_eq hI))
    rw [← hI]; exact Heap.get?_push_size _ hfr
  have WO := WO C.A hh
  have hlen : (assignEach ts C.env).length = vs.length := he.trans hn
  rw [hlen]
  refine wpAny_bind (wpAny_holding (wp_draw WO zsI hR.fr (Z.le_refl _) hS vs.length 0 _ o _ hJ R2 (by (first | lia | omega)) fun s3 o3 xs hJ3 R3 rl => ?_))
  rw [Nat.zero_add] at hJ3
  rw [List.drop_zero, List.take_of_length_le (Nat.le_refl _)] at rl
  rw [if_neg (by rw [rl.length]; (first | lia | omega))]
  obtain ⟨fs, hfs⟩ := WO.fields _ _ hJ3
  refine wpAny_bind (wpAny_holding (WO.fin _ _ _ s3 I o3 _ _ hJ3 R3.rh ⟨Z.le_refl _, hS⟩ (R3.rh.hidden put_self (Stays.fields hfs)) fun h' hx => ?_))
  simp only [Option.isSome_none, Bool.false_eq_true, if_false]
  refine wpAny_pure ?_
  have R4 : R C zs σ z { s3 with heap := h' } := R3.unhide zsI hR.fr (Stays.fields hfs) hx
  exact h z xs rl zs z _ (Z.le_refl _) R4
theorem TAs.list {ts : List Expr} {k : Nat} {p : Pos} {vs : List V} {Q : St → Prop} (hh : C.A.handled = none) (hn : ts.length = vs.length) (h : TIn C ts vs Q X σ)
    (he : (assignEach ts C.env).length = ts.length := by rfl) (hstar : (assignEach ts C.env).findIdx? (·.1) = none := by rfl) : TAs C (.Tuple ts k p) (.lst vs) Q X σ := by
  refine TAs.unpack hh Walk.lst trivial (fun zs z s x hR r => ?_) PySem.F.slot_list_iter.lookup hn h he hstar
  obtain ⟨a, items, n, rfl, e, rl⟩ := (IsL.fz (σ := σ) vs).obj r (Z.le_refl _) hR
  exact ⟨_, e, rfl⟩
/-! the same rules, their side facts as goals (for `with_reducible`) -/
theorem TArgs.consR {e : Expr} {r : List Expr} {Q : List V → St → Prop} (he : starEach (e :: r) C.env = (false, eval e C.env) :: starEach r C.env) (h : TE C e (fun v σ1 => TArgs C r (fun vs σ2 => Q (v :: vs) σ2) X σ1) X σ) : TArgs C (e :: r) Q X σ := TArgs.cons h he
theorem TS.assignR {x : Str} {p p' : Pos} {e : Expr} {Q : Fl → St → Prop} (k : Stores C x) (hs : swapsWith e (some (.Name x p')) p.line C.env = pure false) (h : TE C e (fun v σ1 => Q .next ⟨setL σ1.loc x v, σ1.H⟩) X σ) : TS C (.Assign [.Name x p'] e p) Q X σ := TS.assign k h hs
theorem TS.augR {x : Str} {p p' : Pos} {op : Operator} {e : Expr} {v : V} {Q : Fl → St → Prop} (k : Stores C x) (hv : σ.loc.lookup x = some v)
    (h : TE C e (fun w σ1 => Inp C op v w (fun u σ2 => Q .next ⟨setL σ2.loc x u, σ2.H⟩) X σ1) X σ) : TS C (.AugAssign (.Name x p') op e p) Q X σ := TS.aug k hv h
end
end PL

end
section
open PySem PySem.Calls PyProof.Rows PySem.SeqAt
set_option Elab.async false
set_option linter.unusedVariables false
set_option linter.unusedSimpArgs false
set_option linter.unusedSectionVars false
set_option maxRecDepth 100000
namespace PL
/-! equality of flat data: truth values, numbers, texts of one kind, lists of these -/
inductive EqR : V → V → Bool → Prop
  | bool (a b : Bool) : EqR (.bool a) (.bool b) (a == b)
  | int (a b : Int) : EqR (.int a) (.int b) (a == b)
  | txt (o : Bool) (l m : List Nat) : EqR (.txt o l) (.txt o m) (l == m)
inductive EqRs : List V → List V → Bool → Prop
  | nil : EqRs [] [] true
  | left (b : V) (t : List V) : EqRs [] (b :: t) false
  | right (a : V) (r : List V) : EqRs (a :: r) [] false
  | cons {a b : V} {r t : List V} {p q : Bool} (h : EqR a b p) (k : EqRs r t q) : EqRs (a :: r) (b :: t) (p && q)
theorem EqRs.map {α : Type} [BEq α] (f : α → V) (h : ∀ a b, EqR (f a) (f b) (a == b)) : ∀ a b : List α, EqRs (a.map f) (b.map f) (a == b)
  | [], [] => .nil
  | [], _ :: _ => .left _ _
  | _ :: _, [] => .right _ _
  | x :: a, y :: b => .cons (h x y) (EqRs.map f h a b)
theorem EqRs.txts (o : Bool) (a b : List (List Nat)) : EqRs (a.map (.txt o)) (b.map (.txt o)) (a == b) := EqRs.map _ (.txt o) a b
theorem bytes_inj {l m : List Nat} (hl : ∀ c ∈ l, c < 256) (hm : ∀ c ∈ m, c < 256) (e : l.map UInt8.ofNat = m.map UInt8.ofNat) : l = m := by
  have h1 : l = (l.map UInt8.ofNat).map UInt8.toNat := by
    rw [List.map_map]
    exact (List.map_congr_left (g := id) fun c hc => by simp [Nat.mod_eq_of_lt (hl c hc)]).trans (List.map_id l) |>.symm
  have h2 : m = (m.map UInt8.ofNat).map UInt8.toNat := by
    rw [List.map_map]
    exact (List.map_congr_left (g := id) fun c hc => by simp [Nat.mod_eq_of_lt (hm c hc)]).trans (List.map_id m) |>.symm
  rw [h1, h2, e]
theorem EqAt.bytes_bytes {A : Around} {s : Shared} (b : Array UInt8) (t : Tok) (c : Array UInt8) (u : Tok) : EqAt A s (.bytes b t) (.bytes c u) (b.toList == c.toList) := fun prog w E Q h => by
  unfold eqBool
  refine wpAny_holding ?_
  refine wpAny_ite_split (fun hab => ?_) (fun _ => ?_)
  · have := eq_of_beq hab
    injection this with e1 e2
    subst e1
    refine wpAny_bind (wpAny_rule (wpAny_pure ?_))
    simpa using h
  · exact wpAny_bind (richCompare_gives (op := .Eq) (PySem.W.typeIs_bytes _ _ _) (PySem.W.typeIs_bytes _ _ _) PySem.W.FB.slot_bytes_eq PySem.W.FB.entry_bytes_eq (PySem.W.FB.args_bytes_eq_2 _ _) (PySem.W.gives_bytes_eq b c t u) (fun x => nomatch x) (wpAny_truthy_bool h))
theorem EqAt.txt {z : Z} {A : Around} {s : Shared} {o : Bool} {l m : List Nat} {x y : Value} (r : Rep z (.txt o l) x) (q : Rep z (.txt o m) y) : EqAt A s x y (l == m) := by
  have rq := r.txt_; clear r; rcases rq with ⟨rfl, t, rfl⟩ | ⟨rfl, t, rfl, hl⟩
  · have qq := q.e; clear q; obtain ⟨u, rfl⟩ := qq
    have e : (l == m) = ((⟨l.toArray⟩ : Str) == ⟨m.toArray⟩) := by rw [← str_beq]
    rw [e]; exact EqAt.str_str _ _ _ _
  · have qq := q.e; clear q; obtain ⟨u, rfl, hm⟩ := qq
    have e : (l == m) = ((l.map UInt8.ofNat).toArray.toList == (m.map UInt8.ofNat).toArray.toList) := by
      rw [Bool.eq_iff_iff, beq_iff_eq, beq_iff_eq]
      exact ⟨fun h => h ▸ rfl, fun h => bytes_inj hl hm h⟩
    rw [e]; exact EqAt.bytes_bytes _ _ _ _
theorem in1_units (A : Around) : A.in1.units ≤ A.units + 1 := Nat.le_refl _
theorem EqR.at {z : Z} {A : Around} {s : Shared} {a b : V} {c : Bool} {x y : Value} (h : EqR a b c) (r : Rep z a x) (q : Rep z b y) : EqAt A s x y c := by
  cases h with
  | bool a b => have rq := r.e; clear r; obtain ⟨_, rfl⟩ := rq; cases q; exact EqAt.bool_bool _ _
  | int a b => have rq := r.e; clear r; obtain ⟨_, rfl⟩ := rq; cases q; exact EqAt.int_int _ _ _ _
  | txt o l m => exact EqAt.txt r q
noncomputable def EqAll (A : Around) (s : Shared) (items items2 : List Value) (e : Nat → Bool) : Prop := ∀ j (h1 : j < items.toArray.size) (h2 : j < items2.toArray.size), EqAt A s items.toArray[j] items2.toArray[j] (e j)
theorem EqRs.all {z : Z} {A : Around} {s : Shared} {vs ws : List V} {c : Bool} (h : EqRs vs ws c) : ∀ {xs ys : List Value}, RepL z vs xs → RepL z ws ys →
    ∃ e, EqAll A s xs ys e ∧ ((List.range (min xs.length ys.length)).all e && xs.length == ys.length) = c := by
  induction h with
  | nil => intro xs ys r q; cases r; cases q; exact ⟨fun _ => true, fun j h => (Nat.not_lt_zero j h).elim, rfl⟩
  | left => intro xs ys r q; cases r; cases q; exact ⟨fun _ => true, fun j h => (Nat.not_lt_zero j h).elim, rfl⟩
  | right => intro xs ys r q; cases r; cases q; exact ⟨fun _ => true, fun j _ h => (Nat.not_lt_zero j h).elim, rfl⟩
  | @cons a b r t p q h _ ih =>
    intro xs ys ra rb
    cases ra with
    | cons ha hr => cases rb with
      | cons hb ht =>
        obtain ⟨e, h1, h2⟩ := ih hr ht
        refine ⟨fun j => Nat.casesOn j p e, fun j k1 k2 => ?_, ?_⟩
        · cases j with
          | zero => exact h.at ha hb
          | succ j => exact h1 j (Nat.lt_of_succ_lt_succ k1) (Nat.lt_of_succ_lt_succ k2)
        · rw [List.length_cons, List.length_cons, Nat.succ_min_succ, List.range_succ_eq_map, List.all_cons, List.all_map, Bool.and_assoc, ← h2]
          congr 2
          rw [Bool.eq_iff_iff, beq_iff_eq, beq_iff_eq, Nat.add_right_cancel_iff]
theorem lists_eq {A : Around} {s : Shared} {l b : Addr} {items items2 : List Value} {e : Nat → Bool} (hl : s.heap.IsList l items.toArray) (hb : s.heap.IsList b items2.toArray) (hu : A.units < cLine)
    (he : EqAll A.in1 s items items2 e) : RcAt A s (.ref l) (.ref b) ((List.range (min items.length items2.length)).all e && items.length == items2.length) := by
  by_cases hs : items.length = items2.length
  · rw [hs, Nat.min_self, beq_self_eq_true, Bool.and_true]
    have := RcAt.lists (e := e) hl hb hs hu he
    rwa [List.size_toArray, hs] at this
  · rw [beq_eq_false_iff_ne.mpr hs, Bool.and_false]
    exact RcAt.lists_lengths hl hb (bne_iff_ne.mpr hs) hu
theorem lists_ne {A : Around} {s : Shared} {l b : Addr} {items items2 : List Value} {e : Nat → Bool} (hl : s.heap.IsList l items.toArray) (hb : s.heap.IsList b items2.toArray) (hu : A.units < cLine)
    (he : EqAll A.in1 s items items2 e) : RcNeAt A s (.ref l) (.ref b) (!((List.range (min items.length items2.length)).all e && items.length == items2.length)) := by
  by_cases hs : items.length = items2.length
  · rw [hs, Nat.min_self, beq_self_eq_true, Bool.and_true]
    have := RcNeAt.lists (e := e) hl hb hs hu he
    rwa [List.size_toArray, hs] at this
  · rw [beq_eq_false_iff_ne.mpr hs, Bool.and_false]
    exact RcNeAt.lists_lengths hl hb (bne_iff_ne.mpr hs) hu
theorem Cx.units_lt (C : Cx) : C.A.units < cLine := Nat.lt_of_le_of_lt (Nat.le_trans (Nat.le_add_right _ _) C.hunits) (show 9000 < 9900 by decide)
section
variable {C : Cx} {X : XP} {σ : St} {Q : V → St → Prop}
/-- two lists of data, live or not -/
theorem Cmp.eqL {v w : V} {vs ws : List V} {c : Bool} (k : IsL σ v vs) (k2 : IsL σ w ws) (c' : EqRs vs ws c) (h : Q (.bool c) σ) : Cmp C .Eq v w Q X σ := by
  intro z₀ x y rx ry zs z s hz hR
  obtain ⟨a, items, n, rfl, p, q⟩ := k.obj rx hz hR
  obtain ⟨b, items2, n2, rfl, p2, q2⟩ := k2.obj ry hz hR
  obtain ⟨e, he, rfl⟩ := c'.all (A := C.A.in1) (s := s) q q2
  exact lists_eq ⟨_, p, rfl, n, rfl⟩ ⟨_, p2, rfl, n2, rfl⟩ C.units_lt he _ _ _ _ (PVal.same hR (.bool _) h)
theorem Cmp.neL {v w : V} {vs ws : List V} {c : Bool} (k : IsL σ v vs) (k2 : IsL σ w ws) (c' : EqRs vs ws c) (h : Q (.bool (!c)) σ) : Cmp C .NotEq v w Q X σ := by
  intro z₀ x y rx ry zs z s hz hR
  obtain ⟨a, items, n, rfl, p, q⟩ := k.obj rx hz hR
  obtain ⟨b, items2, n2, rfl, p2, q2⟩ := k2.obj ry hz hR
  obtain ⟨e, he, rfl⟩ := c'.all (A := C.A.in1) (s := s) q q2
  exact lists_ne ⟨_, p, rfl, n, rfl⟩ ⟨_, p2, rfl, n2, rfl⟩ C.units_lt he _ _ _ _ (PVal.same hR (.bool _) h)
end
section
variable {C : Cx} {X : XP} {σ : St} {Q : V → St → Prop}
end
end PL

end
section
open PySem PySem.Calls PyProof.Rows PySem.SeqAt
open MeetsSeq MeetsSeq2 MeetsSeq3 SeqRoads2
open AutoSeq1 (wpAny_loadPart')
set_option Elab.async false
set_option linter.unusedVariables false
set_option linter.unusedSimpArgs false
set_option linter.unusedSectionVars false
set_option maxRecDepth 100000
namespace PL
/-! order of texts and of lists of texts -/
noncomputable def ltT (a b : List Nat) : Bool := decide (a < b)
noncomputable def ltS : List (List Nat) → List (List Nat) → Bool
  | [], [] => false
  | [], _ :: _ => true
  | _ :: _, [] => false
  | x :: a, y :: b => if x == y then ltS a b else ltT x y
noncomputable def opT : CmpOp → List Nat → List Nat → Bool
  | .Lt, a, b => ltT a b
  | _, a, b => ltT b a
noncomputable def opS : CmpOp → List (List Nat) → List (List Nat) → Bool
  | .Lt, a, b => ltS a b
  | _, a, b => ltS b a
noncomputable def RcB (op : CmpOp) (A : Around) (s : Shared) (y x : Value) (b : Bool) : Prop :=
  ∀ (prog : Program) (w : World) (E : Value → Shared → Prop) (Q : Value → Shared → Prop), Q (.bool b) s → wpAny (model prog w) A (richCompare op y x) Q E s
namespace BF
theorem slot_bytes_lt : Slot "bytes" (cmpInfo .Lt).2.1 "bytes.__lt__" :=
  .of (owner := "bytes") (n := "__lt__") (by rw [typeLookup_type, builtinLookup_eq_fast]; kernel_rfl) (by decide +kernel) (by decide +kernel) (by decide +kernel)
    (by first | exact .inl (by decide +kernel) | exact .inr (by decide +kernel)) (by rw [isSubtype_type]; kernel_rfl)
theorem entry_bytes_lt : entryFor table "bytes.__lt__" = some Builtin.«bytes.__lt__» := entryFor_of_tree (by kernel_rfl)
theorem args_bytes_lt (a b : Value) : argsOk "bytes.__lt__" ⟨[a, b], []⟩ := by
  unfold argsOk; rw [signature?_of (id := "bytes.__lt__") (n := ['_', '_', 't', 'l', '_', '_']) (o := ['s', 'e', 't', 'y', 'b']) (by kernel_rfl) PySem.W.FB.owner_bytes]; kernel_rfl
theorem slot_bytes_gt : Slot "bytes" (cmpInfo .Gt).2.1 "bytes.__gt__" :=
  .of (owner := "bytes") (n := "__gt__") (by rw [typeLookup_type, builtinLookup_eq_fast]; kernel_rfl) (by decide +kernel) (by decide +kernel) (by decide +kernel)
    (by first | exact .inl (by decide +kernel) | exact .inr (by decide +kernel)) (by rw [isSubtype_type]; kernel_rfl)
theorem entry_bytes_gt : entryFor table "bytes.__gt__" = some Builtin.«bytes.__gt__» := entryFor_of_tree (by kernel_rfl)
theorem args_bytes_gt (a b : Value) : argsOk "bytes.__gt__" ⟨[a, b], []⟩ := by
  unfold argsOk; rw [signature?_of (id := "bytes.__gt__") (n := ['_', '_', 't', 'g', '_', '_']) (o := ['s', 'e', 't', 'y', 'b']) (by kernel_rfl) PySem.W.FB.owner_bytes]; kernel_rfl
end BF
section
open Builtin
theorem ofNat_lt {a b : Nat} (ha : a < 256) (hb : b < 256) : (UInt8.ofNat a < UInt8.ofNat b) ↔ a < b := by
  rw [UInt8.lt_iff_toNat_lt]; simp [Nat.mod_eq_of_lt ha, Nat.mod_eq_of_lt hb]
theorem order_lt : ∀ (a b : List Nat), (∀ c ∈ a, c < 256) → (∀ c ∈ b, c < 256) → (Bytes.order (a.map UInt8.ofNat) (b.map UInt8.ofNat) == .lt) = ltT a b
  | [], [], _, _ => by simp [Bytes.order, ltT]
  | [], _ :: _, _, _ => by simp [Bytes.order, ltT]
  | _ :: _, [], _, _ => by simp [Bytes.order, ltT]
  | x :: a, y :: b, ha, hb => by
    have hx := ha x List.mem_cons_self
    have hy := hb y List.mem_cons_self
    have ih := order_lt a b (fun c h => ha c (List.mem_cons_of_mem _ h)) (fun c h => hb c (List.mem_cons_of_mem _ h))
    simp only [List.map_cons, Bytes.order]
    rcases Nat.lt_trichotomy x y with h | h | h
    · rw [if_pos ((ofNat_lt hx hy).mpr h)]
      simp [ltT, List.cons_lt_cons_iff, h]
    · subst h
      rw [if_neg (by rw [ofNat_lt hx hx]; (clear hy hb ih hx ha b a; (first | lia | omega))), if_neg (by show ¬ (UInt8.ofNat x < UInt8.ofNat x); rw [ofNat_lt hx hx]; (clear hy hb ih hx ha b a; (first | lia | omega))), ih]
      simp [ltT, List.cons_lt_cons_iff]
    · rw [if_neg (by rw [ofNat_lt hx hy]; (clear ih hy hx hb ha b a; (first | lia | omega))), if_pos (by show UInt8.ofNat y < UInt8.ofNat x; rw [ofNat_lt hy hx]; exact h)]
      simp [ltT, List.cons_lt_cons_iff]; (clear ih hy hx hb ha; (first | lia | omega))
theorem order_gt : ∀ (a b : List Nat), (∀ c ∈ a, c < 256) → (∀ c ∈ b, c < 256) → (Bytes.order (a.map UInt8.ofNat) (b.map UInt8.ofNat) == .gt) = ltT b a
  | [], [], _, _ => by simp [Bytes.order, ltT]
  | [], _ :: _, _, _ => by simp [Bytes.order, ltT]
  | _ :: _, [], _, _ => by simp [Bytes.order, ltT]
  | x :: a, y :: b, ha, hb => by
    have hx := ha x List.mem_cons_self
    have hy := hb y List.mem_cons_self
    have ih := order_gt a b (fun c h => ha c (List.mem_cons_of_mem _ h)) (fun c h => hb c (List.mem_cons_of_mem _ h))
    simp only [List.map_cons, Bytes.order]
    rcases Nat.lt_trichotomy x y with h | h | h
    · rw [if_pos ((ofNat_lt hx hy).mpr h)]
      simp [ltT, List.cons_lt_cons_iff]; (clear ih hy hx hb ha; (first | lia | omega))
    · subst h
      rw [if_neg (by rw [ofNat_lt hx hx]; (clear hy hb ih hx ha b a; (first | lia | omega))), if_neg (by show ¬ (UInt8.ofNat x < UInt8.ofNat x); rw [ofNat_lt hx hx]; (clear hy hb ih hx ha b a; (first | lia | omega))), ih]
      simp [ltT, List.cons_lt_cons_iff]
    · rw [if_neg (by rw [ofNat_lt hx hy]; (clear ih hy hx hb ha b a; (first | lia | omega))), if_pos (by show UInt8.ofNat y < UInt8.ofNat x; rw [ofNat_lt hy hx]; exact h)]
      simp [ltT, List.cons_lt_cons_iff, h]
theorem gives_bytes_lt {l m : List Nat} (hl : ∀ c ∈ l, c < 256) (hm : ∀ c ∈ m, c < 256) (t u : Tok) : Gives («bytes.__lt__» ⟨[.bytes (l.map UInt8.ofNat).toArray t, .bytes (m.map UInt8.ofNat).toArray u], []⟩) (.val (.bool (ltT l m))) := by
  refine .of_wp fun M A E s Q hq => ?_
  show wpAny M A (isInstance (.bytes (m.map UInt8.ofNat).toArray u) (.type "bytes") >>= fun r => _) _ E s
  refine wpAny_bind (wpAny_isInstance (PySem.W.typeIs_bytes s _ u) PySem.F.sub_bytes_bytes ?_)
  exact wpAny_pure ⟨_, rfl, by rw [← order_lt l m hl hm] at hq; exact hq⟩
theorem gives_bytes_gt {l m : List Nat} (hl : ∀ c ∈ l, c < 256) (hm : ∀ c ∈ m, c < 256) (t u : Tok) : Gives («bytes.__gt__» ⟨[.bytes (l.map UInt8.ofNat).toArray t, .bytes (m.map UInt8.ofNat).toArray u], []⟩) (.val (.bool (ltT m l))) := by
  refine .of_wp fun M A E s Q hq => ?_
  show wpAny M A (isInstance (.bytes (m.map UInt8.ofNat).toArray u) (.type "bytes") >>= fun r => _) _ E s
  refine wpAny_bind (wpAny_isInstance (PySem.W.typeIs_bytes s _ u) PySem.F.sub_bytes_bytes ?_)
  exact wpAny_pure ⟨_, rfl, by rw [← order_gt l m hl hm] at hq; exact hq⟩
end
theorem RcB.txt {z : Z} {A : Around} {s : Shared} {o : Bool} {l m : List Nat} {x y : Value} (op : CmpOp) (ho : op = .Lt ∨ op = .Gt) (r : Rep z (.txt o l) x) (q : Rep z (.txt o m) y) : RcB op A s x y (opT op l m) := fun prog w E Q h => by
  have rq := r.txt_; clear r; rcases rq with ⟨rfl, t, rfl⟩ | ⟨rfl, t, rfl, hl⟩
  · have qq := q.e; clear q; obtain ⟨u, rfl⟩ := qq
    rcases ho with rfl | rfl
    · exact richCompare_gives (op := .Lt) (typeIs_str _ _ _) (typeIs_str _ _ _) PySem.F.slot_str_lt PySem.F.entry_str_lt (PySem.F.args_str_lt_2 _ _) (gives_str_lt _ _ t u) (fun x => nomatch x) h
    · exact richCompare_gives (op := .Gt) (typeIs_str _ _ _) (typeIs_str _ _ _) PySem.F.slot_str_gt PySem.F.entry_str_gt (PySem.F.args_str_gt_2 _ _) (gives_str_gt _ _ t u) (fun x => nomatch x) h
  · have qq := q.e; clear q; obtain ⟨u, rfl, hm⟩ := qq
    rcases ho with rfl | rfl
    · exact richCompare_gives (op := .Lt) (PySem.W.typeIs_bytes _ _ _) (PySem.W.typeIs_bytes _ _ _) BF.slot_bytes_lt BF.entry_bytes_lt (BF.args_bytes_lt _ _) (gives_bytes_lt hl hm t u) (fun x => nomatch x) h
    · exact richCompare_gives (op := .Gt) (PySem.W.typeIs_bytes _ _ _) (PySem.W.typeIs_bytes _ _ _) BF.slot_bytes_gt BF.entry_bytes_gt (BF.args_bytes_gt _ _) (gives_bytes_gt hl hm t u) (fun x => nomatch x) h
noncomputable def lexR (e c : Nat → Bool) (fin : Bool) : Nat → Nat → Bool
  | i, 0 => fin
  | i, k + 1 => if e i then lexR e c fin (i + 1) k else c i
noncomputable def opN : CmpOp → Nat → Nat → Bool
  | .Lt, a, b => decide (a < b)
  | _, a, b => decide (b < a)
noncomputable def opCode : CmpOp → Int
  | .Lt => 0
  | _ => 4
set_option maxHeartbeats 4000000 in
theorem lt_loopAt (op : CmpOp) (ho : op = .Lt ∨ op = .Gt) (l b : Addr) (items items2 : Array Value) (n n2 : Nat) (dd dd2 : Option Addr) (sl sl2 : Array (Option Value)) (e c : Nat → Bool) (k : Nat) :
    ∀ i : Nat, min items.size items2.size - i = k → i ≤ min items.size items2.size → Meets (Builtin.«list.__eq__.loop» ⟨[.ref l, .ref b, rawInt i, rawInt (opCode op)], []⟩)
      (fun A R s => s.heap.get? l = some { cls := .type "list", dict := dd, data := .seq items n, slots := sl } ∧ s.heap.get? b = some { cls := .type "list", dict := dd2, data := .seq items2 n2, slots := sl2 } ∧
        (∀ j (h1 : j < items.size) (h2 : j < items2.size), EqAt A.in1 s items[j] items2[j] (e j)) ∧ (∀ j (h1 : j < items.size) (h2 : j < items2.size), e j = false → RcB op A.in1 s items[j] items2[j] (c j)) ∧
        R (.ok (.ret (.bool (lexR e c (opN op items.size items2.size) i k)))) s) := by
  induction k with
  | zero =>
    intro i hk hi prog w A R s h
    obtain ⟨hp, g, d, tk, os⟩ := s; obtain ⟨hl, hb, he, hc, h⟩ := h
    rcases ho with rfl | rfl
    · wp_walk using wpAny_loadPart' hl, wpAny_loadPart' hb
      have hn : items[((i : Nat) : Int).toNat]? = none ∨ items2[((i : Nat) : Int).toNat]? = none := by
        by_cases q : items.size ≤ i
        · left; simp; (clear h hc he hb hl os tk d g hp R A w prog hi hk c e sl2 sl dd2 dd n2 n items2 b l; (first | lia | omega))
        · right; simp; (clear h hc he hb hl os tk d g hp R A w prog hi c e sl2 sl dd2 dd n2 n b l; (first | lia | omega))
      rcases hn with hn | hn
      · rw [hn]; wp_walk using wpAny_loadPart' hl, wpAny_loadPart' hb; exact h
      · rw [hn]
        cases items[((i : Nat) : Int).toNat]? <;> (wp_walk using wpAny_loadPart' hl, wpAny_loadPart' hb; exact h)
    · wp_walk using wpAny_loadPart' hl, wpAny_loadPart' hb
      have hn : items[((i : Nat) : Int).toNat]? = none ∨ items2[((i : Nat) : Int).toNat]? = none := by
        by_cases q : items.size ≤ i
        · left; simp; (clear h hc he hb hl os tk d g hp R A w prog hi hk c e sl2 sl dd2 dd n2 n items2 b l; (first | lia | omega))
        · right; simp; (clear h hc he hb hl os tk d g hp R A w prog hi c e sl2 sl dd2 dd n2 n b l; (first | lia | omega))
      rcases hn with hn | hn
      · rw [hn]; wp_walk using wpAny_loadPart' hl, wpAny_loadPart' hb; exact h
      · rw [hn]
        cases items[((i : Nat) : Int).toNat]? <;> (wp_walk using wpAny_loadPart' hl, wpAny_loadPart' hb; exact h)
  | succ k ih =>
    intro i hk hi prog w A R s h
    obtain ⟨hp, g, d, tk, os⟩ := s; obtain ⟨hl, hb, he, hc, h⟩ := h
    have hlt : i < items.size := by (clear h hc he hb hl os tk d g hp R A w prog ih c e sl2 sl dd2 dd n2 n b l ho op hi; (first | lia | omega))
    have hlt2 : i < items2.size := by (clear h hc he hb hl os tk d g hp R A w prog ih c e sl2 sl dd2 dd n2 n b l ho op hlt hi; (first | lia | omega))
    have hi1 : items[((i : Nat) : Int).toNat]? = some items[i] := by simp [hlt]
    have hi2 : items2[((i : Nat) : Int).toNat]? = some items2[i] := by simp [hlt2]
    have hcc : ((i : Int) + 1) = ((i + 1 : Nat) : Int) := by push_cast; rfl
    rw [lexR] at h
    rcases ho with rfl | rfl
    · wp_walk using wpAny_loadPart' hl, wpAny_loadPart' hb
      rw [hi1, hi2]
      refine wpAny_bind (he i hlt hlt2 prog w _ _ ?_)
      cases hb' : e i with
      | true =>
        rw [hb', if_pos rfl] at h
        wp_walk
        rw [hcc]
        exact ⟨plainId_quiet plain_eq_loop _, codeAny_builtin entry_eq_loop (by
          rw [Around.under_plainId plain_eq_loop _]
          exact ih (i + 1) (by (clear hb' h hc ih hcc hi2 hi1 he hb hl os tk d g hp R A w prog c e sl2 sl dd2 dd n2 n b l hlt2 hlt hi; (first | lia | omega))) (by (clear hb' h hc ih hcc hi2 hi1 he hb hl os tk d g hp R A w prog hk c e sl2 sl dd2 dd n2 n b l k hi; (first | lia | omega))) prog w A R _ ⟨hl, hb, he, hc, h⟩)⟩
      | false =>
        rw [hb', if_neg Bool.false_ne_true] at h
        wp_walk using wpAny_loadPart' hl, wpAny_loadPart' hb
        rw [hi1, hi2]
        refine wpAny_bind (hc i hlt hlt2 hb' prog w _ _ ?_)
        wp_walk
        exact h
    · wp_walk using wpAny_loadPart' hl, wpAny_loadPart' hb
      rw [hi1, hi2]
      refine wpAny_bind (he i hlt hlt2 prog w _ _ ?_)
      cases hb' : e i with
      | true =>
        rw [hb', if_pos rfl] at h
        wp_walk
        rw [hcc]
        exact ⟨plainId_quiet plain_eq_loop _, codeAny_builtin entry_eq_loop (by
          rw [Around.under_plainId plain_eq_loop _]
          exact ih (i + 1) (by (clear hb' h hc ih hcc hi2 hi1 he hb hl os tk d g hp R A w prog c e sl2 sl dd2 dd n2 n b l hlt2 hlt hi; (first | lia | omega))) (by (clear hb' h hc ih hcc hi2 hi1 he hb hl os tk d g hp R A w prog hk c e sl2 sl dd2 dd n2 n b l k hi; (first | lia | omega))) prog w A R _ ⟨hl, hb, he, hc, h⟩)⟩
      | false =>
        rw [hb', if_neg Bool.false_ne_true] at h
        wp_walk using wpAny_loadPart' hl, wpAny_loadPart' hb
        rw [hi1, hi2]
        refine wpAny_bind (hc i hlt hlt2 hb' prog w _ _ ?_)
        wp_walk
        exact h
set_option maxHeartbeats 4000000 in
theorem list_ltAt (l b : Addr) (items items2 : Array Value) (n n2 : Nat) (dd dd2 : Option Addr) (sl sl2 : Array (Option Value)) (e c : Nat → Bool) :
    Meets (Builtin.«list.__lt__» ⟨[.ref l, .ref b], []⟩)
      (fun A R s => s.heap.get? l = some { cls := .type "list", dict := dd, data := .seq items n, slots := sl } ∧ s.heap.get? b = some { cls := .type "list", dict := dd2, data := .seq items2 n2, slots := sl2 } ∧
        (∀ j (h1 : j < items.size) (h2 : j < items2.size), EqAt A.in1 s items[j] items2[j] (e j)) ∧ (∀ j (h1 : j < items.size) (h2 : j < items2.size), e j = false → RcB .Lt A.in1 s items[j] items2[j] (c j)) ∧
        R (.ok (.ret (.bool (lexR e c (opN .Lt items.size items2.size) 0 (min items.size items2.size))))) s) := by
  intro prog w A R s h
  obtain ⟨hp, g, d, tk, os⟩ := s; obtain ⟨hl, hb, he, hc, h⟩ := h
  have f3 := AutoSeq1.sub_list_list
  wp_walk using wpAny_loadPart' hl, wpAny_loadPart' hb
  exact ⟨plainId_quiet plain_eq_loop _, codeAny_builtin entry_eq_loop (by
    rw [Around.under_plainId plain_eq_loop _]
    exact lt_loopAt .Lt (by simp) l b items items2 n n2 dd dd2 sl sl2 e c _ 0 rfl (Nat.zero_le _) prog w A R _ ⟨hl, hb, he, hc, by simpa using h⟩)⟩
theorem RcB.lists_lt {A : Around} {s : Shared} {l b : Addr} {items items2 : Array Value} {e c : Nat → Bool} (hl : s.heap.IsList l items) (hb : s.heap.IsList b items2) (hu : A.units < cLine)
    (he : ∀ j (h1 : j < items.size) (h2 : j < items2.size), EqAt A.in1 s items[j] items2[j] (e j)) (hc : ∀ j (h1 : j < items.size) (h2 : j < items2.size), e j = false → RcB .Lt A.in1 s items[j] items2[j] (c j)) :
    RcB .Lt A s (.ref l) (.ref b) (lexR e c (opN .Lt items.size items2.size) 0 (min items.size items2.size)) := fun prog w E Q h => by
  obtain ⟨⟨cls, dd, data, sl⟩, ho, hc1, n, hd⟩ := id hl
  obtain ⟨⟨cls2, dd2, data2, sl2⟩, ho2, hc2, n2, hd2⟩ := id hb
  simp only at hc1 hd hc2 hd2
  subst hc1 hd hc2 hd2
  exact richCompare_meets_room (op := .Lt) ⟨_, ho, rfl⟩ ⟨_, ho2, rfl⟩ PySem.F.slot_list_lt PySem.F.entry_list_lt (PySem.F.args_list_lt_2 _ _) (list_ltAt l b items items2 n n2 dd dd2 sl sl2 e c)
    ⟨ho, ho2, he, hc, show Value.bool (lexR e c (opN .Lt items.size items2.size) 0 (min items.size items2.size)) ≠ Value.notImplemented ∧ Q (.bool (lexR e c (opN .Lt items.size items2.size) 0 (min items.size items2.size))) s from ⟨(fun x => nomatch x), h⟩⟩ hu
set_option maxHeartbeats 4000000 in
theorem list_gtAt (l b : Addr) (items items2 : Array Value) (n n2 : Nat) (dd dd2 : Option Addr) (sl sl2 : Array (Option Value)) (e c : Nat → Bool) :
    Meets (Builtin.«list.__gt__» ⟨[.ref l, .ref b], []⟩)
      (fun A R s => s.heap.get? l = some { cls := .type "list", dict := dd, data := .seq items n, slots := sl } ∧ s.heap.get? b = some { cls := .type "list", dict := dd2, data := .seq items2 n2, slots := sl2 } ∧
        (∀ j (h1 : j < items.size) (h2 : j < items2.size), EqAt A.in1 s items[j] items2[j] (e j)) ∧ (∀ j (h1 : j < items.size) (h2 : j < items2.size), e j = false → RcB .Gt A.in1 s items[j] items2[j] (c j)) ∧
        R (.ok (.ret (.bool (lexR e c (opN .Gt items.size items2.size) 0 (min items.size items2.size))))) s) := by
  intro prog w A R s h
  obtain ⟨hp, g, d, tk, os⟩ := s; obtain ⟨hl, hb, he, hc, h⟩ := h
  have f3 := AutoSeq1.sub_list_list
  wp_walk using wpAny_loadPart' hl, wpAny_loadPart' hb
  exact ⟨plainId_quiet plain_eq_loop _, codeAny_builtin entry_eq_loop (by
    rw [Around.under_plainId plain_eq_loop _]
    exact lt_loopAt .Gt (by simp) l b items items2 n n2 dd dd2 sl sl2 e c _ 0 rfl (Nat.zero_le _) prog w A R _ ⟨hl, hb, he, hc, by simpa using h⟩)⟩
theorem RcB.lists_gt {A : Around} {s : Shared} {l b : Addr} {items items2 : Array Value} {e c : Nat → Bool} (hl : s.heap.IsList l items) (hb : s.heap.IsList b items2) (hu : A.units < cLine)
    (he : ∀ j (h1 : j < items.size) (h2 : j < items2.size), EqAt A.in1 s items[j] items2[j] (e j)) (hc : ∀ j (h1 : j < items.size) (h2 : j < items2.size), e j = false → RcB .Gt A.in1 s items[j] items2[j] (c j)) :
    RcB .Gt A s (.ref l) (.ref b) (lexR e c (opN .Gt items.size items2.size) 0 (min items.size items2.size)) := fun prog w E Q h => by
  obtain ⟨⟨cls, dd, data, sl⟩, ho, hc1, n, hd⟩ := id hl
  obtain ⟨⟨cls2, dd2, data2, sl2⟩, ho2, hc2, n2, hd2⟩ := id hb
  simp only at hc1 hd hc2 hd2
  subst hc1 hd hc2 hd2
  exact richCompare_meets_room (op := .Gt) ⟨_, ho, rfl⟩ ⟨_, ho2, rfl⟩ PySem.F.slot_list_gt PySem.F.entry_list_gt (PySem.F.args_list_gt_2 _ _) (list_gtAt l b items items2 n n2 dd dd2 sl sl2 e c)
    ⟨ho, ho2, he, hc, show Value.bool (lexR e c (opN .Gt items.size items2.size) 0 (min items.size items2.size)) ≠ Value.notImplemented ∧ Q (.bool (lexR e c (opN .Gt items.size items2.size) 0 (min items.size items2.size))) s from ⟨(fun x => nomatch x), h⟩⟩ hu
noncomputable def eqT (vs ws : List (List Nat)) (j : Nat) : Bool := match vs[j]?, ws[j]? with
  | some a, some b => a == b
  | _, _ => true
noncomputable def opTat (op : CmpOp) (vs ws : List (List Nat)) (j : Nat) : Bool := match vs[j]?, ws[j]? with
  | some a, some b => opT op a b
  | _, _ => true
theorem lexR_shift (e c e' c' : Nat → Bool) (fin : Bool) (he : ∀ j, e' j = e (j + 1)) (hc : ∀ j, c' j = c (j + 1)) : ∀ (k i : Nat), lexR e c fin (i + 1) k = lexR e' c' fin i k
  | 0, i => rfl
  | k + 1, i => by rw [lexR, lexR, he, hc, lexR_shift e c e' c' fin he hc k (i + 1)]
theorem lexR_texts (op : CmpOp) (ho : op = .Lt ∨ op = .Gt) : ∀ (vs ws : List (List Nat)), lexR (eqT vs ws) (opTat op vs ws) (opN op vs.length ws.length) 0 (min vs.length ws.length) = opS op vs ws
  | [], [] => by rcases ho with rfl | rfl <;> rfl
  | [], b :: t => by
    rcases ho with rfl | rfl
    · simp [lexR, opN, opS, ltS]
    · simp [lexR, opN, opS, ltS]
  | a :: r, [] => by
    rcases ho with rfl | rfl
    · simp [lexR, opN, opS, ltS]
    · simp [lexR, opN, opS, ltS]
  | a :: r, b :: t => by
    have ih := lexR_texts op ho r t
    have e1 : min (a :: r).length (b :: t).length = min r.length t.length + 1 := by simp [Nat.add_min_add_right]
    rw [e1, lexR, lexR_shift (eqT (a :: r) (b :: t)) _ (eqT r t) (opTat op r t) _ (fun j => by simp [eqT]) (fun j => by simp [opTat])]
    have e2 : opN op (a :: r).length (b :: t).length = opN op r.length t.length := by rcases ho with rfl | rfl <;> simp [opN]
    rw [e2, ih]
    rcases ho with rfl | rfl
    · simp [eqT, opTat, opS, opT, ltS]
    · simp only [eqT, opTat, opS, opT, ltS, List.getElem?_cons_zero]
      by_cases h : a = b
      · subst h; simp
      · have : b ≠ a := fun q => h q.symm
        simp [h, this]
theorem RcB.texts {z : Z} {A : Around} {s : Shared} {o : Bool} {l b : Addr} {vs ws : List (List Nat)} {items items2 : List Value} (op : CmpOp) (ho : op = .Lt ∨ op = .Gt) (hl : s.heap.IsList l items.toArray) (hb : s.heap.IsList b items2.toArray)
    (r : RepL z (vs.map (.txt o)) items) (q : RepL z (ws.map (.txt o)) items2) (hu : A.units < cLine) : RcB op A s (.ref l) (.ref b) (opS op vs ws) := by
  have h1 := r.length
  have h2 := q.length
  rw [List.length_map] at h1 h2
  have get : ∀ j (h1 : j < items.toArray.size) (h2 : j < items2.toArray.size), ∃ a b, vs[j]? = some a ∧ ws[j]? = some b ∧ Rep z (.txt o a) items.toArray[j] ∧ Rep z (.txt o b) items2.toArray[j] := by
    intro j k1 k2
    have k1' : j < vs.length := by simpa [h1] using k1
    have k2' : j < ws.length := by simpa [h2] using k2
    obtain ⟨x, hx, rx⟩ := r.get (i := j) (v := .txt o vs[j]) (by simp [k1'])
    obtain ⟨y, hy, ry⟩ := q.get (i := j) (v := .txt o ws[j]) (by simp [k2'])
    refine ⟨vs[j], ws[j], by simp [k1'], by simp [k2'], ?_, ?_⟩
    · have : items.toArray[j] = x := by
        have := List.getElem?_eq_some_iff.mp hx
        obtain ⟨_, e⟩ := this; simpa using e
      rw [this]; exact rx
    · have : items2.toArray[j] = y := by
        have := List.getElem?_eq_some_iff.mp hy
        obtain ⟨_, e⟩ := this; simpa using e
      rw [this]; exact ry
  have he : ∀ j (h1 : j < items.toArray.size) (h2 : j < items2.toArray.size), EqAt A.in1 s items.toArray[j] items2.toArray[j] (eqT vs ws j) := by
    intro j k1 k2
    obtain ⟨a, b, e1, e2, ra, rb⟩ := get j k1 k2
    have : eqT vs ws j = (a == b) := by simp [eqT, e1, e2]
    rw [this]; exact EqAt.txt ra rb
  have hc : ∀ j (h1 : j < items.toArray.size) (h2 : j < items2.toArray.size), eqT vs ws j = false → RcB op A.in1 s items.toArray[j] items2.toArray[j] (opTat op vs ws j) := by
    intro j k1 k2 _
    obtain ⟨a, b, e1, e2, ra, rb⟩ := get j k1 k2
    have : opTat op vs ws j = opT op a b := by simp [opTat, e1, e2]
    rw [this]; exact RcB.txt op ho ra rb
  have e := lexR_texts op ho vs ws
  rw [← h1, ← h2] at e
  rcases ho with rfl | rfl
  · have := RcB.lists_lt hl hb hu he hc
    rw [List.size_toArray, List.size_toArray, e] at this; exact this
  · have := RcB.lists_gt hl hb hu he hc
    rw [List.size_toArray, List.size_toArray, e] at this; exact this
noncomputable def KeptBut (I S : Addr) (h h' : Heap) : Prop := ∀ b o, b ≠ I → b ≠ S → h.get? b = some o → h'.get? b = some o
section
variable {prog : Program} {w : World} {A : Around} {R : Result → Shared → Prop}
theorem min_loopL (hh : A.handled = none) {l I S : Addr} {items : Array Value} (hlI : l ≠ I) (hSI : S ≠ I) (hlS : l ≠ S) (bt : Nat → Nat → Bool) (h0 : Heap) (hl : h0.IsList l items)
    (cmp : ∀ (s : Shared) i j (hi : i < items.size) (hj : j < items.size), KeptBut I S h0 s.heap → RcB .Lt A.in1 s items[i] items[j] (bt i j)) :
    ∀ (k j : Nat) (s : Shared) (vb : Value) (c : Nat), items.size - (j + 1) = k → j + 1 ≤ items.size → s.heap.IsListIter I l (j + 1) → items[argBest bt j]? = some vb → KeptBut I S h0 s.heap →
    s.heap.get? S = some { cls := .type "list", dict := none, data := .seq #[vb, vb] c, slots := #[] } →
    (∀ v h', items[argBest bt (items.size - 1)]? = some v → KeptBut I S s.heap h' → R (.ok (.ret v)) { s with heap := h' }) →
    codeAny (model prog w) A (.builtin "min.loop" ⟨[.ref I, .none, .ref S], []⟩) R s := by
  have hname : (toString "min" ++ toString ".loop" : String) = "min.loop" := by decide
  intro k
  induction k with
  | zero =>
    intro j s vb c hk hj hit hPb hke hS hR
    have hin : j + 1 = items.size := by (clear hR hS hke hPb hit c vb s hname cmp hl h0 bt hlS hSI hlI S I l hh; (first | lia | omega))
    refine codeAny_builtin F.entry_min_loop ?_
    rw [Around.under_plainId F.plain_min_loop _]
    show wpAny _ A.in1 (seqItems? (.ref S) >>= _) _ _ s
    refine wpAny_bind (wpAny_seqItems hS rfl ?_)
    show wpAny _ A.in1 (tryCatch (pyNext (.ref I)) _ >>= _) _ _ s
    have hl' : s.heap.IsList l items := let ⟨o, e, r⟩ := hl; ⟨o, hke _ _ hlI hlS e, r⟩
    refine wpAny_bind (wpAny_tryCatch (wpAny_pyNext_list_end (A := A.in1) hh hit hl' (by simp; (clear hl' hR hS hke hPb hit hj hk c vb s hname cmp hl h0 bt hlS hSI hlI S I l hh; (first | lia | omega))) fun h' hx => ?_))
    have hS' := hx S _ hSI hS
    show wpAny _ A.in1 (updateSeq S (fun _ => #[]) >>= _) _ _ _
    refine wpAny_bind ?_
    refine wpAny_updateSeq hS' rfl (wpAny_bind (wpAny_letGo (wpAny_pure ?_)))
    refine hR vb _ (by rw [← hin]; exact hPb) fun b o n1 n2 e => (Heap.get?_update_other _ _ (Ne.symm n2)).trans (hx b o n1 e)
  | succ k ih =>
    intro j s vb c hk hj hit hPb hke hS hR
    have hlt : j + 1 < items.size := by (clear hR hS hke hPb hit c vb s ih hname cmp hl h0 bt hlS hSI hlI S I l hh hj; (first | lia | omega))
    refine codeAny_builtin F.entry_min_loop ?_
    rw [Around.under_plainId F.plain_min_loop _]
    show wpAny _ A.in1 (seqItems? (.ref S) >>= _) _ _ s
    refine wpAny_bind (wpAny_seqItems hS rfl ?_)
    show wpAny _ A.in1 (tryCatch (pyNext (.ref I)) _ >>= _) _ _ s
    have hl' : s.heap.IsList l items := let ⟨o, e, r⟩ := hl; ⟨o, hke _ _ hlI hlS e, r⟩
    refine wpAny_bind (wpAny_tryCatch (wpAny_pyNext_list_item hit hl' (x := items[j + 1]) (by simp [hlt]) fun h' hit' hsb => ?_))
    have hS' := (hsb.2 S hSI).trans hS
    have hke' : KeptBut I S h0 h' := fun b o n1 n2 e => (hsb.2 b n1).trans (hke b o n1 n2 e)
    show wpAny _ A.in1 (tryCatch (holding [items[j + 1], items[j + 1]] (richCompare .Lt items[j + 1] vb >>= _)) _ >>= _) _ _ _
    have hbl : argBest bt j < items.size := (Array.getElem?_eq_some_iff.mp hPb).1
    have hbv : items[argBest bt j] = vb := (Array.getElem?_eq_some_iff.mp hPb).2
    have hcmp := cmp { s with heap := h' } (j + 1) (argBest bt j) hlt hbl hke'
    rw [hbv] at hcmp
    refine wpAny_bind (wpAny_tryCatch (wpAny_holding (wpAny_bind (hcmp prog w _ _ ?_))))
    refine wpAny_bind (wpAny_holding (wpAny_truthy_bool ?_))
    refine wpAny_bind (wpAny_letGo (wpAny_pure ?_))
    cases hb : bt (j + 1) (argBest bt j) with
    | true =>
      simp only [if_true]
      refine wpAny_bind ?_
      refine wpAny_updateSeq hS' rfl (wpAny_bind (wpAny_letGo ?_))
      rw [hname]
      have hit2 : (h'.update S (Obj.mapSeq fun _ => #[items[j + 1], items[j + 1]])).IsListIter I l (j + 1 + 1) := let ⟨o, e, r⟩ := hit'; ⟨o, (Heap.get?_update_other _ _ hSI).trans e, r⟩
      refine wpAny_pure ⟨plainId_quiet F.plain_min_loop _, ih (j + 1) _ items[j + 1] _ (by (clear hit2 hb hcmp hbv hbl hke' hS' hsb hit' h' hl' hR hS hke hPb hit hj c vb s ih hname cmp hl h0 hlS hSI hlI S I l hh bt hlt; (first | lia | omega))) hlt hit2 (by simp only [argBest, hb, if_true]; simp [hlt]) (fun b o n1 n2 e => (Heap.get?_update_other _ _ (Ne.symm n2)).trans (hke' b o n1 n2 e)) (Heap.get?_update_self _ hS' rfl)
        fun v' h'' hP' hk'' => ?_⟩
      exact hR v' h'' hP' fun b o n1 n2 e => hk'' b o n1 n2 ((Heap.get?_update_other _ _ (Ne.symm n2)).trans ((hsb.2 b n1).trans e))
    | false =>
      simp only [Bool.false_eq_true, if_false]
      refine wpAny_bind (wpAny_letGo ?_)
      rw [hname]
      refine wpAny_pure ⟨plainId_quiet F.plain_min_loop _, ih (j + 1) _ vb c (by (clear hb hcmp hbv hbl hke' hS' hsb hit' h' hl' hR hS hke hPb hit hj c vb s ih hname cmp hl h0 hlS hSI hlI S I l hh bt hlt; (first | lia | omega))) hlt hit' (by simp only [argBest, hb, Bool.false_eq_true, if_false]; exact hPb) hke' hS' fun v' h'' hP' hk'' => ?_⟩
      exact hR v' h'' hP' fun b o n1 n2 e => hk'' b o n1 n2 ((hsb.2 b n1).trans e)
theorem max_loopL (hh : A.handled = none) {l I S : Addr} {items : Array Value} (hlI : l ≠ I) (hSI : S ≠ I) (hlS : l ≠ S) (bt : Nat → Nat → Bool) (h0 : Heap) (hl : h0.IsList l items)
    (cmp : ∀ (s : Shared) i j (hi : i < items.size) (hj : j < items.size), KeptBut I S h0 s.heap → RcB .Gt A.in1 s items[i] items[j] (bt i j)) :
    ∀ (k j : Nat) (s : Shared) (vb : Value) (c : Nat), items.size - (j + 1) = k → j + 1 ≤ items.size → s.heap.IsListIter I l (j + 1) → items[argBest bt j]? = some vb → KeptBut I S h0 s.heap →
    s.heap.get? S = some { cls := .type "list", dict := none, data := .seq #[vb, vb] c, slots := #[] } →
    (∀ v h', items[argBest bt (items.size - 1)]? = some v → KeptBut I S s.heap h' → R (.ok (.ret v)) { s with heap := h' }) →
    codeAny (model prog w) A (.builtin "max.loop" ⟨[.ref I, .none, .ref S], []⟩) R s := by
  have hname : (toString "max" ++ toString ".loop" : String) = "max.loop" := by decide
  intro k
  induction k with
  | zero =>
    intro j s vb c hk hj hit hPb hke hS hR
    have hin : j + 1 = items.size := by (clear hR hS hke hPb hit c vb s hname cmp hl h0 bt hlS hSI hlI S I l hh; (first | lia | omega))
    refine codeAny_builtin F.entry_max_loop ?_
    rw [Around.under_plainId F.plain_max_loop _]
    show wpAny _ A.in1 (seqItems? (.ref S) >>= _) _ _ s
    refine wpAny_bind (wpAny_seqItems hS rfl ?_)
    show wpAny _ A.in1 (tryCatch (pyNext (.ref I)) _ >>= _) _ _ s
    have hl' : s.heap.IsList l items := let ⟨o, e, r⟩ := hl; ⟨o, hke _ _ hlI hlS e, r⟩
    refine wpAny_bind (wpAny_tryCatch (wpAny_pyNext_list_end (A := A.in1) hh hit hl' (by simp; (clear hl' hR hS hke hPb hit hj hk c vb s hname cmp hl h0 bt hlS hSI hlI S I l hh; (first | lia | omega))) fun h' hx => ?_))
    have hS' := hx S _ hSI hS
    show wpAny _ A.in1 (updateSeq S (fun _ => #[]) >>= _) _ _ _
    refine wpAny_bind ?_
    refine wpAny_updateSeq hS' rfl (wpAny_bind (wpAny_letGo (wpAny_pure ?_)))
    refine hR vb _ (by rw [← hin]; exact hPb) fun b o n1 n2 e => (Heap.get?_update_other _ _ (Ne.symm n2)).trans (hx b o n1 e)
  | succ k ih =>
    intro j s vb c hk hj hit hPb hke hS hR
    have hlt : j + 1 < items.size := by (clear hR hS hke hPb hit c vb s ih hname cmp hl h0 bt hlS hSI hlI S I l hh hj; (first | lia | omega))
    refine codeAny_builtin F.entry_max_loop ?_
    rw [Around.under_plainId F.plain_max_loop _]
    show wpAny _ A.in1 (seqItems? (.ref S) >>= _) _ _ s
    refine wpAny_bind (wpAny_seqItems hS rfl ?_)
    show wpAny _ A.in1 (tryCatch (pyNext (.ref I)) _ >>= _) _ _ s
    have hl' : s.heap.IsList l items := let ⟨o, e, r⟩ := hl; ⟨o, hke _ _ hlI hlS e, r⟩
    refine wpAny_bind (wpAny_tryCatch (wpAny_pyNext_list_item hit hl' (x := items[j + 1]) (by simp [hlt]) fun h' hit' hsb => ?_))
    have hS' := (hsb.2 S hSI).trans hS
    have hke' : KeptBut I S h0 h' := fun b o n1 n2 e => (hsb.2 b n1).trans (hke b o n1 n2 e)
    show wpAny _ A.in1 (tryCatch (holding [items[j + 1], items[j + 1]] (richCompare .Gt items[j + 1] vb >>= _)) _ >>= _) _ _ _
    have hbl : argBest bt j < items.size := (Array.getElem?_eq_some_iff.mp hPb).1
    have hbv : items[argBest bt j] = vb := (Array.getElem?_eq_some_iff.mp hPb).2
    have hcmp := cmp { s with heap := h' } (j + 1) (argBest bt j) hlt hbl hke'
    rw [hbv] at hcmp
    refine wpAny_bind (wpAny_tryCatch (wpAny_holding (wpAny_bind (hcmp prog w _ _ ?_))))
    refine wpAny_bind (wpAny_holding (wpAny_truthy_bool ?_))
    refine wpAny_bind (wpAny_letGo (wpAny_pure ?_))
    cases hb : bt (j + 1) (argBest bt j) with
    | true =>
      simp only [if_true]
      refine wpAny_bind ?_
      refine wpAny_updateSeq hS' rfl (wpAny_bind (wpAny_letGo ?_))
      rw [hname]
      have hit2 : (h'.update S (Obj.mapSeq fun _ => #[items[j + 1], items[j + 1]])).IsListIter I l (j + 1 + 1) := let ⟨o, e, r⟩ := hit'; ⟨o, (Heap.get?_update_other _ _ hSI).trans e, r⟩
      refine wpAny_pure ⟨plainId_quiet F.plain_max_loop _, ih (j + 1) _ items[j + 1] _ (by (clear hit2 hb hcmp hbv hbl hke' hS' hsb hit' h' hl' hR hS hke hPb hit hj c vb s ih hname cmp hl h0 hlS hSI hlI S I l hh bt hlt; (first | lia | omega))) hlt hit2 (by simp only [argBest, hb, if_true]; simp [hlt]) (fun b o n1 n2 e => (Heap.get?_update_other _ _ (Ne.symm n2)).trans (hke' b o n1 n2 e)) (Heap.get?_update_self _ hS' rfl)
        fun v' h'' hP' hk'' => ?_⟩
      exact hR v' h'' hP' fun b o n1 n2 e => hk'' b o n1 n2 ((Heap.get?_update_other _ _ (Ne.symm n2)).trans ((hsb.2 b n1).trans e))
    | false =>
      simp only [Bool.false_eq_true, if_false]
      refine wpAny_bind (wpAny_letGo ?_)
      rw [hname]
      refine wpAny_pure ⟨plainId_quiet F.plain_max_loop _, ih (j + 1) _ vb c (by (clear hb hcmp hbv hbl hke' hS' hsb hit' h' hl' hR hS hke hPb hit hj c vb s ih hname cmp hl h0 hlS hSI hlI S I l hh bt hlt; (first | lia | omega))) hlt hit' (by simp only [argBest, hb, Bool.false_eq_true, if_false]; exact hPb) hke' hS' fun v' h'' hP' hk'' => ?_⟩
      exact hR v' h'' hP' fun b o n1 n2 e => hk'' b o n1 n2 ((hsb.2 b n1).trans e)
end
section
variable {prog : Program} {w : World} {A : Around} {E : Value → Shared → Prop} {s : Shared}
theorem call_min_list (hh : A.handled = none) {l : Addr} {items : Array Value} {Q : Value → Shared → Prop} (hl : s.heap.IsList l items) (h0 : 0 < items.size) (bt : Nat → Nat → Bool)
    (cmp : ∀ (s' : Shared) i j (hi : i < items.size) (hj : j < items.size), (∀ b o, s.heap.get? b = some o → s'.heap.get? b = some o) → RcB .Lt A.in1.in1 s' items[i] items[j] (bt i j))
    (hQ : ∀ v h', items[argBest bt (items.size - 1)]? = some v → (∀ b o, s.heap.get? b = some o → h'.get? b = some o) → Q v { s with heap := h' }) :
    wpAny (model prog w) A (call (.builtin "min") [.ref l]) Q E s := by
  have hname : (toString "min" ++ toString ".loop" : String) = "min.loop" := by decide
  refine call_function_tree F.kind_min F.plain_min F.entry_min (F.args_min1 _) ?_
  show wpAny _ A.in1 (Builtin.Builtins.bindParams "min" ["key", "default"] 0 ⟨[], []⟩ >>= _) _ _ s
  refine wpAny_bind (wpAny_of_eq (show Builtin.Builtins.bindParams "min" ["key", "default"] 0 ⟨[], []⟩ = pure [none, none] from rfl) ?_)
  refine wpAny_bind (wpAny_pure ?_)
  refine wpAny_bind (wpAny_pyIter_list hl ?_)
  refine wpAny_bind (wpAny_newObj_type ?_)
  rw [hname]
  have hll : l < s.heap.objs.size := let ⟨o, e, _⟩ := hl; Heap.lt_size e
  have hz : (s.heap.push { cls := .type "list_iterator", data := .fields #[.ref l, .int 0 0] }).objs.size = s.heap.objs.size + 1 := Heap.size_push ..
  have hI : ((s.heap.push { cls := .type "list_iterator", data := .fields #[.ref l, .int 0 0] }).push { cls := .type "list", data := .seq ([] : List Value).toArray }).get? s.heap.objs.size = some { cls := .type "list_iterator", data := .fields #[.ref l, .int 0 0] } :=
    Heap.get?_push_of_some _ (Heap.get?_push_size _ rfl)
  have hS : ((s.heap.push { cls := .type "list_iterator", data := .fields #[.ref l, .int 0 0] }).push { cls := .type "list", data := .seq ([] : List Value).toArray }).get? (s.heap.objs.size + 1) = some { cls := .type "list", data := .seq ([] : List Value).toArray } := by
    have := Heap.get?_push_size (s.heap.push { cls := .type "list_iterator", data := .fields #[.ref l, .int 0 0] }) (o := { cls := .type "list", data := .seq ([] : List Value).toArray }) rfl
    rw [hz] at this; exact this
  have old : ∀ b o, s.heap.get? b = some o → ((s.heap.push { cls := .type "list_iterator", data := .fields #[.ref l, .int 0 0] }).push { cls := .type "list", data := .seq ([] : List Value).toArray }).get? b = some o :=
    fun b o e => Heap.get?_push_of_some _ (Heap.get?_push_of_some _ e)
  rw [hz]
  generalize hh1 : (s.heap.push { cls := .type "list_iterator", data := .fields #[.ref l, .int 0 0] }).push { cls := .type "list", data := .seq ([] : List Value).toArray } = h1 at hI hS old ⊢
  have low : ∀ b o, s.heap.get? b = some o → b < s.heap.objs.size := fun b o e => Heap.lt_size e
  generalize s.heap.objs.size = I at hll hI hS low ⊢
  obtain ⟨S, hSe⟩ : ∃ S, S = I + 1 := ⟨_, rfl⟩
  rw [← hSe] at hS ⊢
  have hlI : l ≠ I := Nat.ne_of_lt hll
  have hSI : S ≠ I := by rw [hSe]; exact Nat.succ_ne_self I
  have hlS : l ≠ S := by rw [hSe]; exact Nat.ne_of_lt (Nat.lt_succ_of_lt hll)
  refine wpAny_pure ⟨plainId_quiet F.plain_min_loop _, ?_⟩
  -- the first one
  refine codeAny_builtin F.entry_min_loop ?_
  rw [Around.under_plainId F.plain_min_loop _]
  show wpAny _ A.in1 (seqItems? (.ref S) >>= _) _ _ _
  refine wpAny_bind (wpAny_seqItems hS rfl ?_)
  show wpAny _ A.in1 (tryCatch (pyNext (.ref I)) _ >>= _) _ _ _
  have hl1 : h1.IsList l items := let ⟨o, e, r⟩ := hl; ⟨o, old _ _ e, r⟩
  refine wpAny_bind (wpAny_tryCatch (wpAny_pyNext_list_item (i := 0) ⟨_, hI, rfl, rfl⟩ hl1 (x := items[0]) (by simp [h0]) fun h' hit' hsb => ?_))
  have hS' := (hsb.2 S hSI).trans hS
  show wpAny _ A.in1 (updateSeq S (fun _ => #[items[0], items[0]]) >>= _) _ _ _
  refine wpAny_bind ?_
  refine wpAny_updateSeq hS' rfl ?_
  rw [hname]
  have hsb : Heap.SameBut I h1 h' := hsb
  have low : ∀ b o, s.heap.get? b = some o → b ≠ I ∧ b ≠ S := fun b o e => ⟨Nat.ne_of_lt (low b o e), by rw [hSe]; exact Nat.ne_of_lt (Nat.lt_succ_of_lt (low b o e))⟩
  have hl2 : (h'.update S (Obj.mapSeq fun _ => #[items[0], items[0]])).IsList l items := let ⟨o, e, r⟩ := hl1; ⟨o, (Heap.get?_update_other _ _ (Ne.symm hlS)).trans ((hsb.2 l hlI).trans e), r⟩
  have hit2 : (h'.update S (Obj.mapSeq fun _ => #[items[0], items[0]])).IsListIter I l (0 + 1) := let ⟨o, e, r⟩ := hit'; ⟨o, (Heap.get?_update_other _ _ hSI).trans e, r⟩
  have k2 : KeptBut I S h1 (h'.update S (Obj.mapSeq fun _ => #[items[0], items[0]])) := fun b o n1 n2 e => (Heap.get?_update_other _ _ (Ne.symm n2)).trans ((hsb.2 b n1).trans e)
  refine wpAny_pure ⟨plainId_quiet F.plain_min_loop _, min_loopL (A := A) hh hlI hSI hlS bt _ hl2 (fun s' i j hi hj hk => ?_) _ 0 _ items[0] _ rfl h0 hit2 (by simp [argBest, h0]) (fun b o _ _ e => e) (Heap.get?_update_self _ hS' rfl) fun v h'' hv hk => ?_⟩
  · refine fun prog w E Q hq => ?_
    have := cmp s' i j hi hj (fun b o e => let ⟨n1, n2⟩ := low b o e; hk b o n1 n2 (k2 b o n1 n2 (old b o e))) prog w E Q hq
    exact wpAny_of_in1 this
  · exact hQ v h'' hv fun b o e => let ⟨n1, n2⟩ := low b o e; hk b o n1 n2 (k2 b o n1 n2 (old b o e))
theorem call_max_list (hh : A.handled = none) {l : Addr} {items : Array Value} {Q : Value → Shared → Prop} (hl : s.heap.IsList l items) (h0 : 0 < items.size) (bt : Nat → Nat → Bool)
    (cmp : ∀ (s' : Shared) i j (hi : i < items.size) (hj : j < items.size), (∀ b o, s.heap.get? b = some o → s'.heap.get? b = some o) → RcB .Gt A.in1.in1 s' items[i] items[j] (bt i j))
    (hQ : ∀ v h', items[argBest bt (items.size - 1)]? = some v → (∀ b o, s.heap.get? b = some o → h'.get? b = some o) → Q v { s with heap := h' }) :
    wpAny (model prog w) A (call (.builtin "max") [.ref l]) Q E s := by
  have hname : (toString "max" ++ toString ".loop" : String) = "max.loop" := by decide
  refine call_function_tree F.kind_max F.plain_max F.entry_max (F.args_max1 _) ?_
  show wpAny _ A.in1 (Builtin.Builtins.bindParams "max" ["key", "default"] 0 ⟨[], []⟩ >>= _) _ _ s
  refine wpAny_bind (wpAny_of_eq (show Builtin.Builtins.bindParams "max" ["key", "default"] 0 ⟨[], []⟩ = pure [none, none] from rfl) ?_)
  refine wpAny_bind (wpAny_pure ?_)
  refine wpAny_bind (wpAny_pyIter_list hl ?_)
  refine wpAny_bind (wpAny_newObj_type ?_)
  rw [hname]
  have hll : l < s.heap.objs.size := let ⟨o, e, _⟩ := hl; Heap.lt_size e
  have hz : (s.heap.push { cls := .type "list_iterator", data := .fields #[.ref l, .int 0 0] }).objs.size = s.heap.objs.size + 1 := Heap.size_push ..
  have hI : ((s.heap.push { cls := .type "list_iterator", data := .fields #[.ref l, .int 0 0] }).push { cls := .type "list", data := .seq ([] : List Value).toArray }).get? s.heap.objs.size = some { cls := .type "list_iterator", data := .fields #[.ref l, .int 0 0] } :=
    Heap.get?_push_of_some _ (Heap.get?_push_size _ rfl)
  have hS : ((s.heap.push { cls := .type "list_iterator", data := .fields #[.ref l, .int 0 0] }).push { cls := .type "list", data := .seq ([] : List Value).toArray }).get? (s.heap.objs.size + 1) = some { cls := .type "list", data := .seq ([] : List Value).toArray } := by
    have := Heap.get?_push_size (s.heap.push { cls := .type "list_iterator", data := .fields #[.ref l, .int 0 0] }) (o := { cls := .type "list", data := .seq ([] : List Value).toArray }) rfl
    rw [hz] at this; exact this
  have old : ∀ b o, s.heap.get? b = some o → ((s.heap.push { cls := .type "list_iterator", data := .fields #[.ref l, .int 0 0] }).push { cls := .type "list", data := .seq ([] : List Value).toArray }).get? b = some o :=
    fun b o e => Heap.get?_push_of_some _ (Heap.get?_push_of_some _ e)
  rw [hz]
  generalize hh1 : (s.heap.push { cls := .type "list_iterator", data := .fields #[.ref l, .int 0 0] }).push { cls := .type "list", data := .seq ([] : List Value).toArray } = h1 at hI hS old ⊢
  have low : ∀ b o, s.heap.get? b = some o → b < s.heap.objs.size := fun b o e => Heap.lt_size e
  generalize s.heap.objs.size = I at hll hI hS low ⊢
  obtain ⟨S, hSe⟩ : ∃ S, S = I + 1 := ⟨_, rfl⟩
  rw [← hSe] at hS ⊢
  have hlI : l ≠ I := Nat.ne_of_lt hll
  have hSI : S ≠ I := by rw [hSe]; exact Nat.succ_ne_self I
  have hlS : l ≠ S := by rw [hSe]; exact Nat.ne_of_lt (Nat.lt_succ_of_lt hll)
  refine wpAny_pure ⟨plainId_quiet F.plain_max_loop _, ?_⟩
  -- the first one
  refine codeAny_builtin F.entry_max_loop ?_
  rw [Around.under_plainId F.plain_max_loop _]
  show wpAny _ A.in1 (seqItems? (.ref S) >>= _) _ _ _
  refine wpAny_bind (wpAny_seqItems hS rfl ?_)
  show wpAny _ A.in1 (tryCatch (pyNext (.ref I)) _ >>= _) _ _ _
  have hl1 : h1.IsList l items := let ⟨o, e, r⟩ := hl; ⟨o, old _ _ e, r⟩
  refine wpAny_bind (wpAny_tryCatch (wpAny_pyNext_list_item (i := 0) ⟨_, hI, rfl, rfl⟩ hl1 (x := items[0]) (by simp [h0]) fun h' hit' hsb => ?_))
  have hS' := (hsb.2 S hSI).trans hS
  show wpAny _ A.in1 (updateSeq S (fun _ => #[items[0], items[0]]) >>= _) _ _ _
  refine wpAny_bind ?_
  refine wpAny_updateSeq hS' rfl ?_
  rw [hname]
  have hsb : Heap.SameBut I h1 h' := hsb
  have low : ∀ b o, s.heap.get? b = some o → b ≠ I ∧ b ≠ S := fun b o e => ⟨Nat.ne_of_lt (low b o e), by rw [hSe]; exact Nat.ne_of_lt (Nat.lt_succ_of_lt (low b o e))⟩
  have hl2 : (h'.update S (Obj.mapSeq fun _ => #[items[0], items[0]])).IsList l items := let ⟨o, e, r⟩ := hl1; ⟨o, (Heap.get?_update_other _ _ (Ne.symm hlS)).trans ((hsb.2 l hlI).trans e), r⟩
  have hit2 : (h'.update S (Obj.mapSeq fun _ => #[items[0], items[0]])).IsListIter I l (0 + 1) := let ⟨o, e, r⟩ := hit'; ⟨o, (Heap.get?_update_other _ _ hSI).trans e, r⟩
  have k2 : KeptBut I S h1 (h'.update S (Obj.mapSeq fun _ => #[items[0], items[0]])) := fun b o n1 n2 e => (Heap.get?_update_other _ _ (Ne.symm n2)).trans ((hsb.2 b n1).trans e)
  refine wpAny_pure ⟨plainId_quiet F.plain_max_loop _, max_loopL (A := A) hh hlI hSI hlS bt _ hl2 (fun s' i j hi hj hk => ?_) _ 0 _ items[0] _ rfl h0 hit2 (by simp [argBest, h0]) (fun b o _ _ e => e) (Heap.get?_update_self _ hS' rfl) fun v h'' hv hk => ?_⟩
  · refine fun prog w E Q hq => ?_
    have := cmp s' i j hi hj (fun b o e => let ⟨n1, n2⟩ := low b o e; hk b o n1 n2 (k2 b o n1 n2 (old b o e))) prog w E Q hq
    exact wpAny_of_in1 this
  · exact hQ v h'' hv fun b o e => let ⟨n1, n2⟩ := low b o e; hk b o n1 n2 (k2 b o n1 n2 (old b o e))
end
/-- the first of the least, and of the greatest -/
noncomputable def bestL (op : CmpOp) (ls : List (List (List Nat))) : List (List Nat) := match ls with
  | [] => []
  | a :: r => r.foldl (fun b x => if opS op x b then x else b) a
noncomputable def btOf (op : CmpOp) (ls : List (List (List Nat))) (i j : Nat) : Bool := match ls[i]?, ls[j]? with
  | some a, some b => opS op a b
  | _, _ => false
theorem argBest_get (op : CmpOp) (a : List (List Nat)) (r : List (List (List Nat))) : ∀ j, j ≤ r.length → (a :: r)[argBest (btOf op (a :: r)) j]? = some ((r.take j).foldl (fun b x => if opS op x b then x else b) a)
  | 0, _ => by simp [argBest]
  | j + 1, h => by
    have ih := argBest_get op a r j (by (clear a op; (first | lia | omega)))
    have hj : r[j]? = some r[j] := by simp
    have e1 : btOf op (a :: r) (j + 1) (argBest (btOf op (a :: r)) j) = opS op r[j] ((r.take j).foldl (fun b x => if opS op x b then x else b) a) := by
      have e0 : ∀ i k x y, (a :: r)[i]? = some x → (a :: r)[k]? = some y → btOf op (a :: r) i k = opS op x y := fun i k x y h1 h2 => by unfold btOf; rw [h1, h2]
      exact e0 _ _ _ _ (by simp) ih
    rw [argBest, e1, List.take_add_one, hj, List.foldl_append]
    simp only [Option.toList_some, List.foldl_cons, List.foldl_nil]
    split
    · simp
    · exact ih
theorem bestL_get (op : CmpOp) {ls : List (List (List Nat))} (h : 0 < ls.length) : ls[argBest (btOf op ls) (ls.length - 1)]? = some (bestL op ls) := by
  cases ls with
  | nil => simp at h
  | cons a r =>
    have := argBest_get op a r r.length (Nat.le_refl _)
    rw [List.take_of_length_le (Nat.le_refl _)] at this
    simpa [bestL] using this
section
variable {C : Cx} {X : XP} {σ : St} {Q : V → St → Prop}
theorem call_minL {o : Bool} {v : V} {ls : List (List (List Nat))} (hh : C.A.handled = none) (k : IsL σ v (ls.map fun l => .lst (l.map (.txt o)))) (h0 : 0 < ls.length) (h : Q (.lst ((bestL .Lt ls).map (.txt o))) σ) : CallV C (.builtin "min") [v] Q X σ := by
  refine CallV.toks fun z₀ zs z s xs hz hR r => ?_
  have rq := RepL.inv r; clear r; obtain ⟨_, _, rfl, r, t⟩ := rq
  cases t.inv0; clear t
  obtain ⟨a, items, n, rfl, p, q⟩ := k.obj r (Z.le_refl _) hR
  have hlen := q.length
  rw [List.length_map] at hlen
  have hu := C.hunits
  have hi1 := in1_units C.A
  have hi2 := in1_units C.A.in1
  refine call_min_list hh ⟨_, p, rfl, n, rfl⟩ (by simp; (clear hi2 hi1 hu q p r n a hR hz s z zs z₀ h k hh v o; (first | lia | omega))) (btOf .Lt ls) (fun s' i j hi hj hk => ?_) fun v h' hv hk => ?_
  · have hi' : i < ls.length := by simpa [hlen] using hi
    have hj' : j < ls.length := by simpa [hlen] using hj
    obtain ⟨x, hx, rx⟩ := q.get (i := i) (v := .lst (ls[i].map (.txt o))) (by simp [hi'])
    obtain ⟨y, hy, ry⟩ := q.get (i := j) (v := .lst (ls[j].map (.txt o))) (by simp [hj'])
    have ex : items.toArray[i] = x := by obtain ⟨_, e⟩ := List.getElem?_eq_some_iff.mp hx; simpa using e
    have ey : items.toArray[j] = y := by obtain ⟨_, e⟩ := List.getElem?_eq_some_iff.mp hy; simpa using e
    have eb : btOf .Lt ls i j = opS .Lt ls[i] ls[j] := by simp [btOf, hi', hj']
    rw [ex, ey, eb]
    have rxq := rx.e; clear rx; obtain ⟨_, _, _, rfl, e1, r1⟩ := rxq
    have ryq := ry.e; clear ry; obtain ⟨_, _, _, rfl, e2, r2⟩ := ryq
    exact RcB.texts .Lt (by simp) ⟨_, hk _ _ (hR.rh.hz _ _ e1), rfl, _, rfl⟩ ⟨_, hk _ _ (hR.rh.hz _ _ e2), rfl, _, rfl⟩ r1 r2 (by show _ < 9900; (clear ey hy r2 e2 ex hx r1 e1 eb hj' hi' hk hj hi s' hlen q p r n a hR hz s z zs z₀ h h0 k hh v o j i items ls; (first | lia | omega)))
  · have e := bestL_get .Lt h0
    have e2 : (ls.map fun l => V.lst (l.map (.txt o)))[argBest (btOf .Lt ls) (ls.length - 1)]? = some (.lst ((bestL .Lt ls).map (.txt o))) := by rw [List.getElem?_map, e]; rfl
    obtain ⟨x, hx, rx⟩ := q.get e2
    have : v = x := by
      rw [List.size_toArray, hlen] at hv
      have hv : items[argBest (btOf .Lt ls) (ls.length - 1)]? = some v := by simpa using hv
      rw [hx] at hv; exact (Option.some.inj hv).symm
    rw [this]
    exact CallV.grown hR (t := s.toks) hk rx h
theorem call_maxL {o : Bool} {v : V} {ls : List (List (List Nat))} (hh : C.A.handled = none) (k : IsL σ v (ls.map fun l => .lst (l.map (.txt o)))) (h0 : 0 < ls.length) (h : Q (.lst ((bestL .Gt ls).map (.txt o))) σ) : CallV C (.builtin "max") [v] Q X σ := by
  refine CallV.toks fun z₀ zs z s xs hz hR r => ?_
  have rq := RepL.inv r; clear r; obtain ⟨_, _, rfl, r, t⟩ := rq
  cases t.inv0; clear t
  obtain ⟨a, items, n, rfl, p, q⟩ := k.obj r (Z.le_refl _) hR
  have hlen := q.length
  rw [List.length_map] at hlen
  have hu := C.hunits
  have hi1 := in1_units C.A
  have hi2 := in1_units C.A.in1
  refine call_max_list hh ⟨_, p, rfl, n, rfl⟩ (by simp; (clear hi2 hi1 hu q p r n a hR hz s z zs z₀ h k hh v o; (first | lia | omega))) (btOf .Gt ls) (fun s' i j hi hj hk => ?_) fun v h' hv hk => ?_
  · have hi' : i < ls.length := by simpa [hlen] using hi
    have hj' : j < ls.length := by simpa [hlen] using hj
    obtain ⟨x, hx, rx⟩ := q.get (i := i) (v := .lst (ls[i].map (.txt o))) (by simp [hi'])
    obtain ⟨y, hy, ry⟩ := q.get (i := j) (v := .lst (ls[j].map (.txt o))) (by simp [hj'])
    have ex : items.toArray[i] = x := by obtain ⟨_, e⟩ := List.getElem?_eq_some_iff.mp hx; simpa using e
    have ey : items.toArray[j] = y := by obtain ⟨_, e⟩ := List.getElem?_eq_some_iff.mp hy; simpa using e
    have eb : btOf .Gt ls i j = opS .Gt ls[i] ls[j] := by simp [btOf, hi', hj']
    rw [ex, ey, eb]
    have rxq := rx.e; clear rx; obtain ⟨_, _, _, rfl, e1, r1⟩ := rxq
    have ryq := ry.e; clear ry; obtain ⟨_, _, _, rfl, e2, r2⟩ := ryq
    exact RcB.texts .Gt (by simp) ⟨_, hk _ _ (hR.rh.hz _ _ e1), rfl, _, rfl⟩ ⟨_, hk _ _ (hR.rh.hz _ _ e2), rfl, _, rfl⟩ r1 r2 (by show _ < 9900; (clear ey hy r2 e2 ex hx r1 e1 eb hj' hi' hk hj hi s' hlen q p r n a hR hz s z zs z₀ h h0 k hh v o j i items ls; (first | lia | omega)))
  · have e := bestL_get .Gt h0
    have e2 : (ls.map fun l => V.lst (l.map (.txt o)))[argBest (btOf .Gt ls) (ls.length - 1)]? = some (.lst ((bestL .Gt ls).map (.txt o))) := by rw [List.getElem?_map, e]; rfl
    obtain ⟨x, hx, rx⟩ := q.get e2
    have : v = x := by
      rw [List.size_toArray, hlen] at hv
      have hv : items[argBest (btOf .Gt ls) (ls.length - 1)]? = some v := by simpa using hv
      rw [hx] at hv; exact (Option.some.inj hv).symm
    rw [this]
    exact CallV.grown hR (t := s.toks) hk rx h
end
end PL

end
section
open PySem PySem.Calls PyProof.Rows
open AutoSeq1 (wpAny_loadPart')
set_option Elab.async false
set_option linter.unusedVariables false
set_option linter.unusedSimpArgs false
set_option linter.unusedSectionVars false
set_option maxRecDepth 100000
namespace PL
/-! map -/
namespace BF
theorem owner_map : Manifest.owners.lookup (String.ofList ['p', 'a', 'm'].reverse) = some Manifest.sig_map := by kernel_rfl
theorem mro_map : mroOf (.type "map") = pure [.type "map", .type "object"] := by rw [mroOf_type]; kernel_rfl
theorem lookup_map_new : typeLookup (.type "map") "__new__" = pure (some (.builtin "map.__new__")) := by rw [typeLookup_type, builtinLookup_eq_fast]; kernel_rfl
theorem slot_map_init : Slot "map" "__init__" "object.__init__" :=
  .of (owner := "object") (n := "__init__") (by rw [typeLookup_type, builtinLookup_eq_fast]; kernel_rfl) (by decide +kernel) (by decide +kernel) (by decide +kernel)
    (by first | exact .inl (by decide +kernel) | exact .inr (by decide +kernel)) (by rw [isSubtype_type]; kernel_rfl)
theorem called_map : TypeCalled "map" "map.__new__" "object.__init__" :=
  ⟨by decide +kernel, by decide +kernel, ⟨_, _, mro_map⟩, madeBy_type mro_map lookup_map_new (by decide +kernel), by decide +kernel, by rw [isSubtype_type]; kernel_rfl, slot_map_init⟩
theorem typeCall_map (a b : Value) : checkTypeCall "map" ⟨[a, b], []⟩ = pure () := by kernel_rfl
theorem newCall_map (a b : Value) : checkBuiltinCall "map.__new__" ⟨[.type "map", a, b], []⟩ = pure () := by kernel_rfl
theorem entry_map_new : entryFor table "map.__new__" = some Builtin.«map.__new__» := entryFor_of_tree (by kernel_rfl)
theorem args_object_init_3 (a b c : Value) : argsOk "object.__init__" ⟨[a, b, c], []⟩ := by
  unfold argsOk; rw [signature?_of (id := "object.__init__") (n := ['_', '_', 't', 'i', 'n', 'i', '_', '_']) (o := ['t', 'c', 'e', 'j', 'b', 'o']) (by kernel_rfl) PySem.F.owner_object]; kernel_rfl
theorem slot_map_iter : Slot "map" "__iter__" "map.__iter__" :=
  .of (owner := "map") (n := "__iter__") (by rw [typeLookup_type, builtinLookup_eq_fast]; kernel_rfl) (by decide +kernel) (by decide +kernel) (by decide +kernel)
    (by first | exact .inl (by decide +kernel) | exact .inr (by decide +kernel)) (by rw [isSubtype_type]; kernel_rfl)
theorem entry_map_iter : entryFor table "map.__iter__" = some Builtin.«dict_keyiterator.__iter__» :=
  entryFor_alias (id' := "dict_keyiterator.__iter__") (by rw [fastTable_eq_tree]; kernel_rfl) rfl (by decide +kernel) (by rw [fastTable_eq_tree]; kernel_rfl)
theorem args_map_iter (a : Value) : argsOk "map.__iter__" ⟨[a], []⟩ := by
  unfold argsOk; rw [signature?_of (id := "map.__iter__") (n := ['_', '_', 'r', 'e', 't', 'i', '_', '_']) (o := ['p', 'a', 'm']) (by kernel_rfl) owner_map]; kernel_rfl
theorem slot_map_next : Slot "map" "__next__" "map.__next__" :=
  .of (owner := "map") (n := "__next__") (by rw [typeLookup_type, builtinLookup_eq_fast]; kernel_rfl) (by decide +kernel) (by decide +kernel) (by decide +kernel)
    (by first | exact .inl (by decide +kernel) | exact .inr (by decide +kernel)) (by rw [isSubtype_type]; kernel_rfl)
theorem entry_map_next : entryFor table "map.__next__" = some Builtin.«map.__next__» := entryFor_of_tree (by kernel_rfl)
theorem args_map_next (a : Value) : argsOk "map.__next__" ⟨[a], []⟩ := by
  unfold argsOk; rw [signature?_of (id := "map.__next__") (n := ['_', '_', 't', 'x', 'e', 'n', '_', '_']) (o := ['p', 'a', 'm']) (by kernel_rfl) owner_map]; kernel_rfl
theorem map_no_len : typeLookup (.type "map") "__len__" = pure none := by rw [typeLookup_type, builtinLookup_eq_fast]; kernel_rfl
theorem map_no_hint : typeLookup (.type "map") "__length_hint__" = pure none := by rw [typeLookup_type, builtinLookup_eq_fast]; kernel_rfl
theorem sub_map : isSubtype (.type "map") (.type "map") = pure true := by rw [isSubtype_type]; kernel_rfl
end BF
noncomputable abbrev mapO (t : Addr) (f : Value) : Obj := { cls := .type "map", dict := none, data := .fields #[.ref t, f], slots := #[] }
section
variable {prog : Program} {w : World} {A : Around} {E : Value → Shared → Prop} {s : Shared}
theorem meets_map_new (l : Addr) (f : Value) (items : Array Value) (n : Nat) (dct : Option Addr) (sl : Array (Option Value)) :
    Meets (Builtin.«map.__new__» ⟨[.type "map", f, .ref l], []⟩) (fun _ R s => s.heap.get? l = some { cls := .type "list", dict := dct, data := .seq items n, slots := sl } ∧
      R (.ok (.ret (.ref (s.heap.objs.size + 2))))
        { s with heap := ((s.heap.push { cls := .type "list_iterator", data := .fields #[.ref l, .int 0 0] }).push (tupO [.ref s.heap.objs.size] 0)).push (mapO (s.heap.objs.size + 1) f) }) :=
  .of_wp fun prog w A R s h => by
    obtain ⟨hp, g, d, tk, os⟩ := s; obtain ⟨hl, h⟩ := h
    have hsub := BF.sub_map
    have hL : Heap.IsList (Shared.heap ⟨hp, g, d, tk, os⟩) l items := ⟨_, hl, rfl, n, rfl⟩
    wp_walk using wpAny_loadPart' hl, wpAny_pyIter_list hL
    refine ⟨_, rfl, ?_⟩
    simpa [Heap.size_push] using h
theorem call_map_list {l : Addr} {f : Value} {items : List Value} {n : Nat} {Q : Value → Shared → Prop} (hl : s.heap.get? l = some (lstO items n))
    (h : ∀ h', h'.get? s.heap.objs.size = some { cls := .type "list_iterator", data := .fields #[.ref l, .int 0 0] } → h'.get? (s.heap.objs.size + 1) = some (tupO [.ref s.heap.objs.size] 0) → h'.get? (s.heap.objs.size + 2) = some (mapO (s.heap.objs.size + 1) f) →
      (∀ b o, s.heap.get? b = some o → h'.get? b = some o) → Q (.ref (s.heap.objs.size + 2)) { s with heap := h' }) :
    wpAny (model prog w) A (call (.type "map") [f, .ref l]) Q E s := by
  refine callType_new BF.called_map (by decide) (BF.typeCall_map _ _) (BF.newCall_map _ _) (fun obj => BF.args_object_init_3 obj _ _) BF.entry_map_new (meets_map_new l f items.toArray n none #[]) ⟨hl, ?_⟩
  have z1 : (s.heap.push { cls := .type "list_iterator", data := .fields #[.ref l, .int 0 0] }).objs.size = s.heap.objs.size + 1 := Heap.size_push ..
  have z2 : ((s.heap.push { cls := .type "list_iterator", data := .fields #[.ref l, .int 0 0] }).push (tupO [.ref s.heap.objs.size] 0)).objs.size = s.heap.objs.size + 2 := by rw [Heap.size_push, z1]
  have e1 : (((s.heap.push { cls := .type "list_iterator", data := .fields #[.ref l, .int 0 0] }).push (tupO [.ref s.heap.objs.size] 0)).push (mapO (s.heap.objs.size + 1) f)).get? s.heap.objs.size = some { cls := .type "list_iterator", data := .fields #[.ref l, .int 0 0] } :=
    Heap.get?_push_of_some _ (Heap.get?_push_of_some _ (Heap.get?_push_size _ rfl))
  have e2 : (((s.heap.push { cls := .type "list_iterator", data := .fields #[.ref l, .int 0 0] }).push (tupO [.ref s.heap.objs.size] 0)).push (mapO (s.heap.objs.size + 1) f)).get? (s.heap.objs.size + 1) = some (tupO [.ref s.heap.objs.size] 0) := by
    refine Heap.get?_push_of_some _ ?_
    have := Heap.get?_push_size (s.heap.push { cls := .type "list_iterator", data := .fields #[.ref l, .int 0 0] }) (o := tupO [.ref s.heap.objs.size] 0) rfl
    rw [z1] at this; exact this
  have e3 : (((s.heap.push { cls := .type "list_iterator", data := .fields #[.ref l, .int 0 0] }).push (tupO [.ref s.heap.objs.size] 0)).push (mapO (s.heap.objs.size + 1) f)).get? (s.heap.objs.size + 2) = some (mapO (s.heap.objs.size + 1) f) := by
    have := Heap.get?_push_size ((s.heap.push { cls := .type "list_iterator", data := .fields #[.ref l, .int 0 0] }).push (tupO [.ref s.heap.objs.size] 0)) (o := mapO (s.heap.objs.size + 1) f) rfl
    rw [z2] at this; exact this
  exact ⟨⟨_, e3, rfl⟩, h _ e1 e2 e3 fun b o e => Heap.get?_push_of_some _ (Heap.get?_push_of_some _ (Heap.get?_push_of_some _ e))⟩
theorem wpAny_pyIter_map {m t : Addr} {f : Value} {Q : Value → Shared → Prop} (he : s.heap.get? m = some (mapO t f)) (h : Q (.ref m) s) : wpAny (model prog w) A (pyIter (.ref m)) Q E s := by
  have hT : s.TypeIs (.ref m) "map" := ⟨_, he, rfl⟩
  refine wpAny_pyIter_slot hT BF.slot_map_iter (wpAny_call_entry BF.slot_map_iter hT BF.entry_map_iter ?_ (BF.args_map_iter _))
  show wpAny _ _ (ret (.ref m)) _ _ s
  exact wpAny_pure ⟨_, rfl, "map", _, hT, BF.slot_map_next.lookup, h⟩
/-- one draw from a map: the iterator gives, the function answers -/
theorem pyNext_map_item {m t I l : Addr} {f x : Value} {i k : Nat} {items : Array Value} {Q : Option Value → Shared → Prop} (hm : s.heap.get? m = some (mapO t f)) (ht : s.heap.get? t = some (tupO [.ref I] k)) (hI : s.heap.IsListIter I l i) (hl : s.heap.IsList l items) (hx : items[i]? = some x) (hmI : m ≠ I)
    (h : ∀ h', h'.IsListIter I l (i + 1) → Heap.SameBut I s.heap h' → wpAny (model prog w) A.in1 (call f [x]) (fun v s' => Q (some v) s')
      (fun e s' => wpAny (model prog w) A (isInstance e (.type "StopIteration")) (fun b s2 => if b then Q none s2 else E e s2) E s') { s with heap := h' }) :
    wpAny (model prog w) A (pyNext (.ref m)) Q E s := by
  have hT : s.TypeIs (.ref m) "map" := ⟨_, hm, rfl⟩
  unfold pyNext
  refine wpAny_bind (wpAny_attempt (wpAny_callSpecial?_slot (name := Str.ofString "__next__") hT BF.slot_map_next (wpAny_call_entry BF.slot_map_next hT BF.entry_map_next ?_ (BF.args_map_next _))))
  show wpAny _ _ (field (.ref m) 0 >>= _) _ _ s
  refine wpAny_bind (wpAny_field hm rfl (x := .ref t) rfl ?_)
  show wpAny _ _ (seqItems? (.ref t) >>= _) _ _ s
  refine wpAny_bind (wpAny_seqItems ht rfl ?_)
  show wpAny _ _ (forIn ([Value.ref I].toArray) (#[] : Array Value) _ >>= _) _ _ s
  simp only [List.forIn_toArray, List.forIn_cons, List.forIn_nil]
  refine wpAny_bind (wpAny_bind (wpAny_bind (wpAny_holding (wpAny_nextOf_list_item hI hl hx fun h' hit hsb => ?_))))
  refine wpAny_pure (wpAny_pure ?_)
  have hm' : h'.get? m = some (mapO t f) := (hsb.2 m hmI).trans hm
  refine wpAny_bind (wpAny_field hm' rfl (x := f) rfl ?_)
  refine wpAny_bind (wpAny_holding ?_)
  refine wpAny_mono (h h' hit hsb) (fun v s' q => ?_) fun e s' q => ?_
  · exact wpAny_bind (wpAny_letGo (wpAny_pure ⟨_, rfl, wpAny_pure q⟩))
  · refine wpAny_bind (wpAny_mono q (fun b s2 q2 => ?_) fun _ _ x => x)
    cases b with
    | true => exact wpAny_pure q2
    | false => exact wpAny_throw q2
theorem pyNext_map_end {m t I l : Addr} {f : Value} {i k : Nat} {items : Array Value} {Q : Option Value → Shared → Prop} (hh : A.handled = none) (hm : s.heap.get? m = some (mapO t f)) (ht : s.heap.get? t = some (tupO [.ref I] k)) (hI : s.heap.IsListIter I l i) (hl : s.heap.IsList l items) (hx : items[i]? = none)
    (h : ∀ h', Heap.ExtBut I s.heap h' → Q none { s with heap := h' }) : wpAny (model prog w) A (pyNext (.ref m)) Q E s := by
  have hT : s.TypeIs (.ref m) "map" := ⟨_, hm, rfl⟩
  unfold pyNext
  refine wpAny_bind (wpAny_attempt (wpAny_callSpecial?_slot (name := Str.ofString "__next__") hT BF.slot_map_next (wpAny_call_entry BF.slot_map_next hT BF.entry_map_next ?_ (BF.args_map_next _))))
  show wpAny _ _ (field (.ref m) 0 >>= _) _ _ s
  refine wpAny_bind (wpAny_field hm rfl (x := .ref t) rfl ?_)
  show wpAny _ _ (seqItems? (.ref t) >>= _) _ _ s
  refine wpAny_bind (wpAny_seqItems ht rfl ?_)
  show wpAny _ _ (forIn ([Value.ref I].toArray) (#[] : Array Value) _ >>= _) _ _ s
  simp only [List.forIn_toArray, List.forIn_cons, List.forIn_nil]
  refine wpAny_bind (wpAny_bind (wpAny_bind (wpAny_holding (wpAny_nextOf_list_end (A := A.in1) hh hI hl hx fun h' e hex he => ?_))))
  obtain ⟨o, e1, e2⟩ := he
  refine wpAny_bind (wpAny_isInstance (T := "StopIteration") ⟨o, e1, e2⟩ PySem.isSubtype_stop ?_)
  exact wpAny_pure (h h' hex)
end
section
variable {prog : Program} {w : World} {A : Around} {R : Result → Shared → Prop}
theorem extend_loop {S m : Addr} {n : Nat} (hn : n ≤ 16777216) (res : Value) (Inv : Nat → Array Value → Shared → Prop)
    (turn : ∀ i acc c s, i < n → Inv i acc s → s.heap.get? S = some { cls := .type "list", dict := none, data := .seq acc c, slots := #[] } → wpAny (model prog w) A.in1 (pyNext (.ref m)) (fun r s' => ∃ v c', r = some v ∧ s'.heap.get? S = some { cls := .type "list", dict := none, data := .seq acc c', slots := #[] } ∧
      Inv (i + 1) (acc.push v) { s' with heap := s'.heap.update S (Obj.mapSeq (·.push v)) }) (fun e s' => R (.error e) s') s)
    (fin : ∀ acc c s, Inv n acc s → s.heap.get? S = some { cls := .type "list", dict := none, data := .seq acc c, slots := #[] } → wpAny (model prog w) A.in1 (pyNext (.ref m)) (fun r s' => r = none ∧ R (.ok (.ret res)) s') (fun e s' => R (.error e) s') s) :
    ∀ (k i : Nat) (s : Shared) (acc : Array Value) (c : Nat), n - i = k → i ≤ n → acc.size = i → Inv i acc s → s.heap.get? S = some { cls := .type "list", dict := none, data := .seq acc c, slots := #[] } →
    codeAny (model prog w) A (.builtin "list.extend.loop" ⟨[.ref S, .ref m, res], []⟩) R s := by
  intro k
  induction k with
  | zero =>
    intro i s acc c hk hi hsz inv hS
    have hin : i = n := by (clear hS inv c s fin turn Inv res hn m S hsz acc; omega)
    subst hin
    refine codeAny_builtin F.entry_extend_loop ?_
    rw [Around.under_plainId F.plain_extend_loop _]
    show wpAny _ A.in1 (pyNext (.ref m) >>= _) _ _ s
    refine wpAny_bind (wpAny_mono (fin acc c s inv hS) ?_ fun _ _ x => x)
    rintro r s' ⟨rfl, q⟩
    exact wpAny_pure q
  | succ k ih =>
    intro i s acc c hk hi hsz inv hS
    refine codeAny_builtin F.entry_extend_loop ?_
    rw [Around.under_plainId F.plain_extend_loop _]
    show wpAny _ A.in1 (pyNext (.ref m) >>= _) _ _ s
    refine wpAny_bind (wpAny_mono (turn i acc c s (by (clear hS inv c s ih fin turn Inv res hn m S hsz hi acc; omega)) inv hS) ?_ fun _ _ x => x)
    rintro r s' ⟨v, c', rfl, hS', q⟩
    show wpAny _ A.in1 (updateSeq S (·.push v) >>= _) _ _ _
    have hle := sizeLine_eq
    refine wpAny_bind ?_
    refine wpAny_updateSeq hS' rfl (wpAny_pure ⟨plainId_quiet F.plain_extend_loop _, ih (i + 1) _ (acc.push v) _ (by (clear hle q hS' c' v s' hS inv c s ih fin turn Inv res hn m S hsz hi acc; omega)) (by (clear hle q hS' c' v s' hS inv c s ih fin turn Inv res hn m S hsz hi acc; omega)) (by simp [hsz]) q (Heap.get?_update_self _ hS' rfl)⟩) (by rw [hsz]; (clear q hS' c' v s' hS inv hk c s ih fin turn Inv res m S k hsz acc; omega)) (by show (acc.push v).size ≤ sizeLine + 1; rw [Array.size_push, hsz]; (clear q hS' c' v s' hS inv hk c s ih fin turn Inv res m S k hsz acc; omega))
end
section
variable {prog : Program} {w : World} {A : Around} {E : Value → Shared → Prop} {s : Shared}
theorem collect_map {m t : Addr} {f : Value} {Q : List Value → Shared → Prop} (hm : s.heap.get? m = some (mapO t f))
    (h : ∀ h1 c0, (∀ b o, s.heap.get? b = some o → h1.get? b = some o) → h1.get? s.heap.objs.size = some { cls := .type "list", dict := none, data := .seq #[] c0, slots := #[] } →
      codeAny (model prog w) A (.builtin "list.extend.loop" ⟨[.ref s.heap.objs.size, .ref m, .ref s.heap.objs.size], []⟩)
        (fun r s' => match r with | .ok (.ret v) => ∃ acc c, v = .ref s.heap.objs.size ∧ s'.heap.get? s.heap.objs.size = some { cls := .type "list", dict := none, data := .seq acc c, slots := #[] } ∧ Q acc.toList s' | .ok _ => False | .error e => E e s') { s with heap := h1 }) :
    wpAny (model prog w) A (collect (.ref m)) Q E s := by
  have hSm : s.heap.objs.size ≠ m := Nat.ne_of_gt (Heap.lt_size hm)
  unfold collect
  refine wpAny_bind (wpAny_runValue (codeAny_builtin F.entry_proto_collect ?_))
  rw [Around.under_plainId F.plain_proto_collect _]
  show wpAny _ A.in1 (newList [] >>= fun l => again (.builtin "list.__iadd__" ⟨[l, .ref m], []⟩)) _ _ s
  refine wpAny_bind (wpAny_newObj_type ?_)
  refine wpAny_pure ⟨plainId_quiet F.plain_list_iadd _, codeAny_builtin F.entry_list_iadd ?_⟩
  rw [Around.under_plainId F.plain_list_iadd _]
  have hm₁ : (s.heap.push { cls := .type "list", data := .seq ([] : List Value).toArray }).get? m = some (mapO t f) := Heap.get?_push_of_some _ hm
  have hT : Shared.TypeIs { s with heap := s.heap.push { cls := .type "list", data := .seq ([] : List Value).toArray } } (.ref m) "map" := ⟨_, hm₁, rfl⟩
  show wpAny _ A.in1 (Builtin.List.listExtendWith (.ref s.heap.objs.size) (.ref m) (.ref s.heap.objs.size)) _ _ _
  unfold Builtin.List.listExtendWith
  refine wpAny_bind (wpAny_typeOf hT ?_)
  have h1 : Builtin.List.listSameRef (.ref s.heap.objs.size) (.ref m) = false := by simp [Builtin.List.listSameRef, hSm]
  have h2 : (Value.type "map" == Value.type "list") = false := by decide
  have h3 : (Value.type "map" == Value.type "tuple") = false := by decide
  simp only [h1, h2, h3, Bool.or_false, Bool.false_eq_true, if_false]
  refine wpAny_bind (wpAny_pyIter_map hm₁ ?_)
  refine wpAny_bind (wpAny_holding ?_)
  unfold Builtin.List.listLengthHint
  refine wpAny_bind (wpAny_specialOf hT BF.map_no_len ?_)
  show wpAny _ A.in1 (specialOf (Value.ref m) (Str.ofString "__length_hint__") >>= _) _ _ _
  refine wpAny_bind (wpAny_specialOf hT BF.map_no_hint ?_)
  refine wpAny_pure ?_
  show wpAny _ A.in1 (rule "list.extend.makes-room" >>= fun _ => Builtin.List.listTouch (.ref s.heap.objs.size) >>= fun _ =>
    again (.builtin "list.extend.loop" ⟨[.ref s.heap.objs.size, .ref m, .ref s.heap.objs.size], []⟩)) _ _ _
  refine wpAny_bind (wpAny_rule ?_)
  have hS₁ : (s.heap.push { cls := .type "list", data := .seq ([] : List Value).toArray }).get? s.heap.objs.size = some { cls := .type "list", data := .seq ([] : List Value).toArray } := Heap.get?_push_size _ rfl
  refine wpAny_bind ?_
  show wpAny _ A.in1 (updateSeq s.heap.objs.size (·.push .none) >>= fun _ => updateSeq s.heap.objs.size (·.pop)) _ _ _
  refine wpAny_bind (wpAny_updateSeq hS₁ rfl ?_)
  have hS₂ := Heap.get?_update_self (Obj.mapSeq (·.push Value.none)) hS₁ rfl
  refine wpAny_updateSeq hS₂ rfl ?_
  have hS₃ := Heap.get?_update_self (Obj.mapSeq (·.pop)) hS₂ rfl
  have oth : ∀ b o, b ≠ s.heap.objs.size → (s.heap.push { cls := .type "list", data := .seq ([] : List Value).toArray }).get? b = some o →
      (((s.heap.push { cls := .type "list", data := .seq ([] : List Value).toArray }).update s.heap.objs.size (Obj.mapSeq (·.push Value.none))).update s.heap.objs.size (Obj.mapSeq (·.pop))).get? b = some o :=
    fun b o hb e => (Heap.get?_update_other _ _ (Ne.symm hb)).trans ((Heap.get?_update_other _ _ (Ne.symm hb)).trans e)
  refine wpAny_pure ⟨plainId_quiet F.plain_extend_loop _, codeAny_mono (h _ _ (fun b o e => oth b o (Nat.ne_of_lt (Heap.lt_size e)) (Heap.get?_push_of_some _ e)) hS₃) ?_⟩
  intro r s' hr
  cases r with
  | error e => exact hr
  | ok fl =>
    cases fl with
    | ret v =>
      obtain ⟨acc, c, rfl, hS', q⟩ := hr
      show wpAny _ A (load s.heap.objs.size >>= _) _ _ s'
      exact wpAny_bind (wpAny_load hS' (wpAny_pure q))
    | _ => exact hr
theorem code_tuple_new_map {m t : Addr} {f : Value} {Q₁ : Value → Shared → Prop} (hm : s.heap.get? m = some (mapO t f))
    (h : ∀ h1 c0, (∀ b o, s.heap.get? b = some o → h1.get? b = some o) → h1.get? s.heap.objs.size = some { cls := .type "list", dict := none, data := .seq #[] c0, slots := #[] } →
      codeAny (model prog w) A.in1 (.builtin "list.extend.loop" ⟨[.ref s.heap.objs.size, .ref m, .ref s.heap.objs.size], []⟩)
        (fun r s' => match r with
          | .ok (.ret v) => ∃ acc c, v = .ref s.heap.objs.size ∧ s'.heap.get? s.heap.objs.size = some { cls := .type "list", dict := none, data := .seq acc c, slots := #[] } ∧ acc.size ≤ sizeLine ∧ Q₁ (.ref s'.heap.objs.size) { s' with heap := s'.heap.push { cls := .type "tuple", data := .seq acc } }
          | .ok _ => False
          | .error e => E e s') { s with heap := h1 }) :
    codeAny (model prog w) A (.call (.builtin "tuple.__new__") ⟨[.type "tuple", .ref m], []⟩) (wants Q₁ E) s := by
  refine codeAny_of_tree ?_
  show wpAny _ A.in1 (do checkBuiltinCall "tuple.__new__" ⟨[.type "tuple", .ref m], []⟩; again (.builtin "tuple.__new__" ⟨[.type "tuple", .ref m], []⟩)) _ _ s
  refine wpAny_bind (wpAny_of_eq (F.newCall_tuple_1 _) (wpAny_pure ⟨plainId_quiet F.plain_tuple_new _, codeAny_builtin F.entry_tuple_new ?_⟩))
  rw [Around.under_plainId F.plain_tuple_new _]
  have hsub := sub_tuple_self
  have hinit := init_tuple_lookup
  have hmh := madeHere_tuple
  have hTI : s.TypeIs (.ref m) "map" := ⟨_, hm, rfl⟩
  wp_walk using wpAny_typeOf hTI, collect_map hm
  intro h1 c0 k1 k2
  refine codeAny_mono (h h1 c0 k1 k2) fun r s' hr => ?_
  cases r with
  | error e => exact hr
  | ok fl =>
    cases fl with
    | ret v =>
      obtain ⟨acc, c, e1, e2, e3, q⟩ := hr
      refine ⟨acc, c, e1, e2, ?_⟩
      show wpAny _ _ (Builtin.Tuple.tupleExact acc.toList.toArray >>= fun v => ret v) _ _ _
      unfold Builtin.Tuple.tupleExact
      have e : acc.toList.toArray = acc := by simp
      rw [e]
      exact wpAny_bind (wpAny_newObj_type (wpAny_pure q) e3)
    | _ => exact hr
theorem call_tuple_map {m t : Addr} {f : Value} {Q : Value → Shared → Prop} (hm : s.heap.get? m = some (mapO t f))
    (h : ∀ h1 c0, (∀ b o, s.heap.get? b = some o → h1.get? b = some o) → h1.get? s.heap.objs.size = some { cls := .type "list", dict := none, data := .seq #[] c0, slots := #[] } →
      codeAny (model prog w) A.in1.in1 (.builtin "list.extend.loop" ⟨[.ref s.heap.objs.size, .ref m, .ref s.heap.objs.size], []⟩)
        (fun r s' => match r with
          | .ok (.ret v) => ∃ acc c, v = .ref s.heap.objs.size ∧ s'.heap.get? s.heap.objs.size = some { cls := .type "list", dict := none, data := .seq acc c, slots := #[] } ∧ acc.size ≤ sizeLine ∧ Q (.ref s'.heap.objs.size) { s' with heap := s'.heap.push { cls := .type "tuple", data := .seq acc } }
          | .ok _ => False
          | .error e => E e s') { s with heap := h1 }) :
    wpAny (model prog w) A (call (.type "tuple") [.ref m]) Q E s := by
  refine callType_codes (Q₁ := fun obj s₁ => s₁.TypeIs obj "tuple" ∧ Q obj s₁) F.called_tuple (F.typeCall_tuple_1 _) F.entry_object_init (code_tuple_new_map hm fun h1 c0 k1 k2 => ?_) fun obj s₁ h₁ => ?_
  · refine codeAny_mono (h h1 c0 k1 k2) fun r s' hr => ?_
    cases r with
    | error e => exact hr
    | ok fl =>
      cases fl with
      | ret v =>
        obtain ⟨acc, c, e1, e2, e3, q⟩ := hr
        exact ⟨acc, c, e1, e2, e3, ⟨_, Heap.get?_push_size _ rfl, rfl⟩, q⟩
      | _ => exact hr
  · exact ⟨h₁.1, F.args_object_init_2 obj _, object_init_meets F.called_tuple.init.lookup F.called_tuple.made (by decide) prog w A.in1 _ s₁ ⟨h₁.1, rfl, h₁.2⟩⟩
end
end PL

end
section
open PySem PySem.Calls PyProof.Rows
set_option Elab.async false
set_option linter.unusedVariables false
set_option linter.unusedSimpArgs false
set_option linter.unusedSectionVars false
set_option maxRecDepth 100000
namespace PL
/-! the same frame, seen from inside a builtin -/
noncomputable def Cx.at_ (C : Cx) (A' : Around) (m : Nat) (hd : A'.depth + m ≤ 900) (hu : A'.units + 20 * m ≤ 9000) (hf : A'.frames = C.A.frames) : Cx :=
  { C with A := A', n := m, hdep := hd, hunits := hu, hframes := by rw [hf]; exact C.hframes }
section
variable {C : Cx} {zs z : Z} {σ : St} {s : Shared} {A' : Around} {m : Nat} {hd : A'.depth + m ≤ 900} {hu : A'.units + 20 * m ≤ 9000} {hf : A'.frames = C.A.frames}
theorem R.to (r : R C zs σ z s) : R (C.at_ A' m hd hu hf) zs σ z s := ⟨r.rh, r.ns, r.cells, r.cellsOk, r.locFree, r.fr⟩
theorem R.from (r : R (C.at_ A' m hd hu hf) zs σ z s) : R C zs σ z s := ⟨r.rh, r.ns, r.cells, r.cellsOk, r.locFree, r.fr⟩
/-- nothing is told of the object any more -/
theorem R.forget (hR : R C zs σ z s) {I : Addr} {o : Obj} (e : s.heap.get? I = some o) (h0 : z I = none) (q : Apart C zs σ I) (hs : ∀ ov, o.data ≠ .cell ov) {h' : Heap} {t : Nat} (k : Heap.ExtBut I s.heap h') : R C zs σ z { s with heap := h', toks := t } :=
  (hR.hideAt e h0 q).unhideC q.1 hR.fr hs k
theorem R.drop1 {a : Addr} {o : AO} {L : List (Str × V)} {H : Led} (hR : R C zs ⟨L, (a, o) :: H⟩ z s) : R C zs ⟨L, H⟩ z s ∧ z a = none ∧ Apart C zs ⟨L, H⟩ a := by
  obtain ⟨p1, p2, p3⟩ := hR.rh.hH (a, o) List.mem_cons_self
  have hn := hR.rh.nodup
  have hn : a ∉ H.map (·.1) := (List.nodup_cons.mp (by simpa using hn)).1
  refine ⟨hR.weaken (fun _ _ h => h) (List.sublist_cons_self ..), p2, p3, ?_, hn, ?_⟩
  · intro e; exact hR.locFree.2.2 (by rw [← e]; exact List.mem_cons_self)
  · intro p hp e
    obtain ⟨_, _, _, _, q⟩ := hR.cellsOk p hp
    exact q (by rw [e]; exact List.mem_cons_self)
end
noncomputable def itO (o : Obj) (l : Addr) (i : Nat) : Prop := o.cls = .type "list_iterator" ∧ o.data = .fields #[.ref l, .int (i : Int) 0]
/-- what map(f, xs) gives -/
noncomputable def PMap (vs : List V) (f : Value) (L : List (Str × V)) (H : Led) (i : Nat) : Z → Value → St → Prop := fun z val σ =>
  ∃ m t I l items n o, val = .ref m ∧ z l = some (lstO items n) ∧ RepL z vs items ∧ itO o l i ∧ σ = ⟨L, (m, .raw (mapO t f)) :: (t, .raw (tupO [.ref I] 0)) :: (I, .raw o) :: H⟩
section
variable {C : Cx} {X : XP} {σ : St}
theorem TT.mapL {z₀ : Z} {f : Value} {vs : List V} {xs : List Value} (r : RepL z₀ [.con f, .lst vs] xs) : TT C z₀ (call (.type "map") xs []) (PMap vs f σ.loc σ.H 0) X σ := by
  have rq := RepL.inv r; clear r; obtain ⟨_, _, rfl, r1, t⟩ := rq
  have tq := RepL.inv t; clear t; obtain ⟨_, _, rfl, r2, t⟩ := tq
  cases t.inv0; clear t; have r1q := r1.e; clear r1; obtain ⟨_, ef⟩ := r1q; have ef := ef.symm; subst ef
  have r2q := r2.e; clear r2; obtain ⟨l, items, n, rfl, e, hr⟩ := r2q
  intro zs z s hz hR
  refine call_map_list (hR.rh.hz _ _ (hz _ _ e)) fun h' e1 e2 e3 k => ?_
  have R1 : R C zs σ z { s with heap := h' } := hR.grow (t := s.toks) k
  have n0 : ∀ a, s.heap.objs.size ≤ a → z a = none := fun a ha => hR.rh.fresh_z ha
  have ap : ∀ a, s.heap.objs.size ≤ a → Apart C zs σ a := fun a ha => hR.apart_new ha
  have R2 := R1.ledger (o := .raw { cls := .type "list_iterator", data := .fields #[.ref l, .int 0 0] }) e1 (n0 _ (Nat.le_refl _)) (ap _ (Nat.le_refl _))
  have ap2 : ∀ {a b : Addr} {o : AO} {H : Led}, a ≠ b → Apart C zs ⟨σ.loc, H⟩ a → Apart C zs ⟨σ.loc, (b, o) :: H⟩ a := fun hab ⟨x, y, w, u⟩ => ⟨x, y, by rw [List.map_cons, List.mem_cons]; exact fun q => q.elim hab w, u⟩
  have R3 := R2.ledger (o := .raw (tupO [.ref s.heap.objs.size] 0)) e2 (n0 _ (Nat.le_succ _)) (ap2 (Nat.succ_ne_self _) (ap _ (Nat.le_succ _)))
  have R4 := R3.ledger (o := .raw (mapO (s.heap.objs.size + 1) f)) e3 (n0 _ (Nat.le_add_right _ 2)) (ap2 (Nat.succ_ne_self _) (ap2 (Nat.ne_of_gt (Nat.lt_add_of_pos_right (by decide))) (ap _ (Nat.le_add_right _ 2))))
  exact ⟨z, _, Z.le_refl _, R4, _, _, _, l, items, n, _, rfl, hz _ _ e, hr.mono hz, ⟨rfl, rfl⟩, rfl⟩
theorem TT.tupleMap {z₀ : Z} {k : Nat} {f : Value} {vs ws : List V} {L : List (Str × V)} {H : Led} {Q : V → St → Prop} {val : Value} (hh : C.A.handled = none) (hm : PMap vs f L H 0 z₀ val σ) (hk : k + 1 ≤ C.n) (hlen : ws.length = vs.length) (hn : vs.length ≤ 16777216)
    (hf : ∀ (i : Nat) (v w : V) (H' : Led), vs[i]? = some v → ws[i]? = some w → CallT C.g k f [v] (fun u H1 => u = w ∧ H1 = H') (fun _ _ => False) H') (h : Q (.tup ws) ⟨L, H⟩) :
    TT C z₀ (call (.type "tuple") [val] []) (PVal Q) X σ := by
  obtain ⟨m, t, I, l, items, n, o, rfl, hzl, hr, ho, rfl⟩ := hm
  intro zs z s hz hR
  have hml : s.heap.get? m = some (mapO t f) := (hR.rh.hH _ List.mem_cons_self).1
  generalize hS : s.heap.objs.size = S
  have hlen2 : items.length = vs.length := hr.length
  refine call_tuple_map hml fun h1 c0 k1 e1 => ?_
  rw [hS] at e1 ⊢
  have R1 : R C zs _ z { s with heap := h1 } := hR.grow (t := s.toks) k1
  have z0 : z S = none := hR.rh.fresh_z (Nat.le_of_eq hS)
  have zsS : zs S = none := hR.rh.fresh_zs (Nat.le_of_eq hS)
  have apS := hR.apart_new (Nat.le_of_eq hS)
  have hkn : k + 1 ≤ C.n := hk
  have hdep := C.hdep
  have hunits := C.hunits
  have i1 := in1_units C.A
  have i2 := in1_units C.A.in1
  have i3 := in1_units C.A.in1.in1
  have i4 := in1_units C.A.in1.in1.in1
  let C2 : Cx := C.at_ C.A.in1.in1.in1.in1 k (by show C.A.depth + k ≤ 900; (clear i4 i3 i2 i1 hunits hkn apS zsS z0 R1 e1 k1 c0 h1 hlen2 hS hml hR hz z zs ho hr hzl o n l I t m h hf hn hlen hh Q H L f z₀ X S s items ws vs; (first | lia | omega))) (by (clear hdep hkn apS zsS z0 R1 e1 k1 c0 h1 hlen2 hS hml hR hz z zs ho hr hzl o n l I t m h hf hn hlen hh Q H L f z₀ X S s items ws vs; (first | lia | omega))) rfl
  let Inv : Nat → Array Value → Shared → Prop := fun i acc s' => ∃ z' c o, Z.le z z' ∧ itO o l i ∧ R C (zs.put S (lstO acc.toList c)) ⟨L, (m, .raw (mapO t f)) :: (t, .raw (tupO [.ref I] 0)) :: (I, .raw o) :: H⟩ z' s' ∧ RepL z' (ws.take i) acc.toList
  have start : Inv 0 #[] { s with heap := h1 } := ⟨z, c0, o, Z.le_refl _, ho, R1.hideAt e1 z0 apS, by simpa using RepL.nil⟩
  have sub : ∀ {i : Nat} {acc : Array Value} {s' : Shared}, Inv i acc s' → ∃ c, s'.heap.get? S = some { cls := .type "list", dict := none, data := .seq acc c, slots := #[] } := by
    rintro i acc s' ⟨z', c, o, lz, hit, R', rl⟩
    exact ⟨c, by have := R'.rh.hidden put_self (Stays.list _ c); simpa [lstO] using this⟩
  refine extend_loop (A := C.A.in1.in1) hn (.ref S) Inv (fun i acc c s' hi inv hS' => ?_) (fun acc c s' inv hS' => ?_) vs.length 0 _ #[] c0 rfl (Nat.zero_le _) rfl start e1
  · obtain ⟨z', c', o', lz, hit, R', rl⟩ := inv
    have hm' : s'.heap.get? m = some (mapO t f) := (R'.rh.hH _ List.mem_cons_self).1
    have ht' : s'.heap.get? t = some (tupO [.ref I] 0) := (R'.rh.hH (t, _) (List.mem_cons_of_mem _ List.mem_cons_self)).1
    have hI' : s'.heap.get? I = some o' := (R'.rh.hH (I, _) (List.mem_cons_of_mem _ (List.mem_cons_of_mem _ List.mem_cons_self))).1
    have hmI : m ≠ I := by
      have := R'.rh.nodup
      simp only [List.map_cons, List.nodup_cons, List.mem_cons, not_or] at this
      exact this.1.2.1
    have hl' : s'.heap.get? l = some (lstO items n) := R'.rh.hz _ _ (lz _ _ (hz _ _ hzl))
    have hv : vs[i]? = some vs[i] := List.getElem?_eq_getElem hi
    have hw : ws[i]? = some ws[i] := List.getElem?_eq_getElem (by (clear hv hl' hmI hI' ht' hm' rl R' hit lz o' c' z' hS' s' c acc sub start Inv C2 i4 i3 i2 i1 hunits hdep hkn apS zsS z0 R1 e1 k1 c0 h1 hS hml hR hz z zs ho hr hzl o n l I t m h hf hn hk hh Q H L f z₀ X S s k C hlen2 items; (first | lia | omega)))
    obtain ⟨x, hx, rx⟩ := (hr.mono (Z.le_trans hz lz)).get hv
    refine pyNext_map_item hm' ht' ⟨o', hI', hit.1, hit.2⟩ (isList_of hl') (x := x) (by simpa using hx) hmI fun h2 hit2 hsb => ?_
    obtain ⟨o2, e2, c2, d2⟩ := hit2
    have R2 : R C (zs.put S (lstO acc.toList c')) ⟨L, (m, .raw (mapO t f)) :: (t, .raw (tupO [.ref I] 0)) :: (I, .raw o2) :: H⟩ z' { s' with heap := h2 } :=
      R'.upd (t := s'.toks) (.tail (.tail .head)) hsb e2
    have cv : CallV C2 f [vs[i]] (fun u σ1 => u = ws[i] ∧ σ1 = ⟨L, (m, .raw (mapO t f)) :: (t, .raw (tupO [.ref I] 0)) :: (I, .raw o2) :: H⟩) X0 ⟨L, (m, .raw (mapO t f)) :: (t, .raw (tupO [.ref I] 0)) :: (I, .raw o2) :: H⟩ := by
      refine CallV.fn (n := k) (Nat.le_refl _) hh ?_
      have := hf i vs[i] ws[i] ((m, .raw (mapO t f)) :: (t, .raw (tupO [.ref I] 0)) :: (I, .raw o2) :: H) hv hw
      intro A outer zs z s xs a1 a2 a3 a4 a5 a6 a7
      refine codeAny_mono (this A outer zs z s xs a1 a2 a3 a4 a5 a6 a7) ?_
      rintro r s'' hq
      cases r with
      | ok fl =>
        cases fl with
        | ret val =>
          obtain ⟨z1, H1, v1, b1, b2, b3, b4, b5⟩ := hq
          exact ⟨z1, H1, v1, b1, b2, b3, b4, by rw [b5]⟩
        | _ => exact hq
      | error e =>
        obtain ⟨z1, H1, cls, b1, b2, b3, b4⟩ := hq
        exact b4.elim
    refine wpAny_mono (cv z' [x] (.cons rx .nil) _ z' _ (Z.le_refl _) R2.to) ?_ fun e s3 q => q.absurd
    rintro v s3 ⟨z3, σ3, l3, R3, u, ru, rfl, rfl⟩
    have R3 := R3.from
    have hS3 : s3.heap.get? S = some (lstO acc.toList c') := R3.rh.hidden put_self (Stays.list _ c')
    refine ⟨v, c', rfl, by simpa [lstO] using hS3, ?_⟩
    obtain ⟨c4, hc4⟩ : ∃ c4, (s3.heap.update S (Obj.mapSeq (·.push v))).get? S = some (lstO (acc.push v).toList c4) := ⟨c' + 1, by rw [Heap.get?_update_self _ hS3 rfl]; simp [Obj.mapSeq, lstO]; exact (Array.toArray_toList (xs := acc.push v)).symm.trans (by simp)⟩
    refine ⟨z3, c4, o2, Z.le_trans lz l3, ⟨c2, d2⟩, R3.iter (t := s3.toks) zsS hR.fr (Stays.list _ c') (Heap.SameBut.update ..).extBut hc4, ?_⟩
    rw [List.take_add_one, hw, Array.toList_push]
    exact (rl.mono l3).append (.cons ru .nil)
  · obtain ⟨z', c', o', lz, hit, R', rl⟩ := inv
    have hm' : s'.heap.get? m = some (mapO t f) := (R'.rh.hH _ List.mem_cons_self).1
    have ht' : s'.heap.get? t = some (tupO [.ref I] 0) := (R'.rh.hH (t, _) (List.mem_cons_of_mem _ List.mem_cons_self)).1
    have hI' : s'.heap.get? I = some o' := (R'.rh.hH (I, _) (List.mem_cons_of_mem _ (List.mem_cons_of_mem _ List.mem_cons_self))).1
    have hl' : s'.heap.get? l = some (lstO items n) := R'.rh.hz _ _ (lz _ _ (hz _ _ hzl))
    refine pyNext_map_end (A := C.A.in1.in1.in1) hh hm' ht' ⟨o', hI', hit.1, hit.2⟩ (isList_of hl') (by simp [hlen2]) fun h2 hex => ?_
    refine ⟨rfl, ?_⟩
    have R2 : R C (zs.put S (lstO acc.toList c')) ⟨L, H⟩ z' { s' with heap := h2 } := by
      obtain ⟨Ra, _, _⟩ := R'.drop1
      obtain ⟨Rb, _, _⟩ := Ra.drop1
      obtain ⟨Rc, y1, y2⟩ := Rb.drop1
      exact Rc.forget (t := s'.toks) hI' y1 y2 (fun ov e => by rw [hit.2] at e; cases e) hex
    have hS2 : h2.get? S = some (lstO acc.toList c') := R2.rh.hidden put_self (Stays.list _ c')
    have R3 : R C zs ⟨L, H⟩ z' { s' with heap := h2 } := R2.unhide (t := s'.toks) (h' := h2) zsS hR.fr (Stays.list _ c') fun b o _ e => e
    rw [List.take_of_length_le (by (clear R3 hS2 R2 hex h2 hl' hI' ht' hm' rl R' hit lz o' c' z' hS' s' c acc sub start Inv C2 i4 i3 i2 i1 hunits hdep hkn apS zsS z0 R1 e1 k1 c0 h1 hlen2 hS hml hR hz z zs ho hr hzl o n l I t m h hf hn hk hh Q H L f z₀ X S s items k C; (first | lia | omega)))] at rl
    refine ⟨acc, c', rfl, by simpa [lstO] using hS2, by have := rl.length; rw [Array.length_toList] at this; rw [this, hlen]; exact size_ok hn, ?_⟩
    obtain ⟨R4, l4⟩ := R3.frozen { cls := .type "tuple", data := .seq acc } s'.toks
    refine ⟨_, _, Z.le_trans lz l4, R4, _, .tup (n := 0) (items := acc.toList) ?_ (rl.mono l4), h⟩
    rw [put_self]
theorem TT.args1 {z₀ : Z} {e : Expr} {pos : Pos} {P : Z → List Value → St → Prop} (h : TT C z₀ (eval e C.env) (fun z v σ' => ∀ z', Z.le z z' → P z' [v] σ') X σ) (he : starEach [e] C.env = (false, eval e C.env) :: starEach [] C.env := by rfl) :
    TT C z₀ (spliced (backTo pos (starEach [e] C.env))) P X σ := by
  rw [he]
  show TT C z₀ (do
    let v ← eval e C.env
    let here ← (Pure.pure [v] : Sem (List Value))
    return here ++ (← PySem.holding here (spliced (backTo pos (starEach [] C.env))))) _ X σ
  refine TT.bind (TT.mono h ?_)
  rintro z a σ1 l1 h1
  refine TT.bind (TT.pure fun z1 l2 => TT.bind (TT.holding ?_))
  show TT C z1 (Pure.pure []) _ X σ1
  exact TT.pure fun z2 l3 => TT.pure fun z3 l4 => h1 z3 (Z.le_trans l2 (Z.le_trans l3 l4))
theorem PMap.mono {vs : List V} {f : Value} {L : List (Str × V)} {H : Led} {i : Nat} {z z' : Z} {val : Value} {σ : St} (l : Z.le z z') : PMap vs f L H i z val σ → PMap vs f L H i z' val σ := by
  rintro ⟨m, t, I, a, items, n, o, h1, h2, h3, h4, h5⟩
  exact ⟨m, t, I, a, items, n, o, h1, l _ _ h2, h3.mono l, h4, h5⟩
theorem BI_map : bootBuiltins "map" = some (.type "map") := by kernel_rfl
theorem BI_tuple : bootBuiltins "tuple" = some (.type "tuple") := by kernel_rfl
/-- tuple(map(f, a list)) -/
theorem TE.tupleMap {g : Gd} {n : Nat} {sc : Scope} {np1 np2 pos pos2 : Pos} {args : List Expr} {Q : V → St → Prop} (hIn : In C g n sc) (hfr : Free g BI) (hl1 : sc.names.lookup ("tuple" : Str) = some .globalImplicit) (hl2 : sc.names.lookup ("map" : Str) = some .globalImplicit)
    (h : TArgs C args (fun us σ1 => ∃ f vs ws k, us = [.con f, .lst vs] ∧ k + 1 ≤ n ∧ ws.length = vs.length ∧ vs.length ≤ 16777216 ∧
      (∀ (i : Nat) (v w : V) (H' : Led), vs[i]? = some v → ws[i]? = some w → CallT g k f [v] (fun u H1 => u = w ∧ H1 = H') (fun _ _ => False) H') ∧ Q (.tup ws) σ1) X σ)
    (hp2 : (backTo pos2 (starEach args C.env)).any (·.1) = false := by rfl)
    (hp : (backTo pos (starEach [.Call (.Name "map" np2) args [] pos2] C.env)).any (·.1) = false := by rfl)
    (he2 : eval (.Call (.Name "map" np2) args [] pos2) C.env = (do callWith pos2 (← eval (.Name "map" np2) C.env) [] (backTo pos2 (starEach args C.env)) []) := by rfl)
    (he : eval (.Call (.Name "tuple" np1) [.Call (.Name "map" np2) args [] pos2] [] pos) C.env = (do callWith pos (← eval (.Name "tuple" np1) C.env) [] (backTo pos (starEach [.Call (.Name "map" np2) args [] pos2] C.env)) []) := by rfl)
    (hs : starEach [.Call (.Name "map" np2) args [] pos2] C.env = (false, eval (.Call (.Name "map" np2) args [] pos2) C.env) :: starEach [] C.env := by rfl) :
    TE C (.Call (.Name "tuple" np1) [.Call (.Name "map" np2) args [] pos2] [] pos) Q X σ := by
  intro z₀
  have hg := hIn.g
  subst hg
  rw [he]
  refine TT.bind (TT.mono (TE.name_builtin (Q := fun v σ1 => v = .con (.type "tuple") ∧ σ1 = σ) ((hIn.kind _).trans hl1) (hfr _ (by decide +kernel)) BI_tuple ⟨rfl, rfl⟩ (by decide +kernel) (by decide +kernel) z₀) ?_)
  rintro z fx σ1 l1 ⟨_, rf, rfl, rfl⟩
  cases rf
  refine TT.callWith (.ty "tuple") hp (TT.args1 (he := hs) ?_)
  rw [he2]
  refine TT.bind (TT.mono (TE.name_builtin (Q := fun v σ2 => v = .con (.type "map") ∧ σ2 = σ1) ((hIn.kind _).trans hl2) (hfr _ (by decide +kernel)) BI_map ⟨rfl, rfl⟩ (by decide +kernel) (by decide +kernel) z) ?_)
  rintro z2 fx σ2 l2 ⟨_, rf, rfl, rfl⟩
  cases rf
  refine TT.callWith (.ty "map") hp2 (TT.mono (h pos2 z2) ?_)
  rintro z3 xs σ3 l3 ⟨us, rs, f, vs, ws, k, rfl, hk, hlen, hn, hf, q⟩
  refine TT.mono (TT.mapL rs) ?_
  rintro z4 val σ4 l4 pm z5 l5
  have hnn := hIn.n
  exact TT.tupleMap hIn.calm (pm.mono l5) (by (clear l5 z5 pm l4 σ4 val z4 q hf hn hlen rs f l3 σ3 xs z3 h l2 σ2 z2 l1 z hfr hIn z₀ hs he he2 hp hp2 hl2 hl1 Q args pos2 pos np2 np1 sc X ws vs; (first | lia | omega))) hlen hn hf q
end
end PL

end
section
open PySem PySem.Calls PyProof.Rows
set_option Elab.async false
set_option linter.unusedVariables false
set_option linter.unusedSimpArgs false
set_option linter.unusedSectionVars false
set_option maxRecDepth 100000
namespace PL
/-! a loop over enumerate of a list -/
noncomputable abbrev enumO (I : Addr) (i : Int) (old : Value) : Obj := { cls := .type "enumerate", dict := none, data := .fields #[.none, .bool false, .ref I, rawInt i, .none, old], slots := #[] }
noncomputable def PEnum (vs : List V) (L : List (Str × V)) (H : Led) : Z → Value → St → Prop := fun z val σ =>
  ∃ E I l items n o, val = .ref E ∧ z l = some (lstO items n) ∧ RepL z vs items ∧ itO o l 0 ∧ σ = ⟨L, (E, .raw (enumO I 0 .none)) :: (I, .raw o) :: H⟩
section
variable {C : Cx} {X : XP} {σ : St} {zs z : Z} {s : Shared}
theorem TT.enumL {z₀ : Z} {vs : List V} {xs : List Value} (r : RepL z₀ [.lst vs] xs) : TT C z₀ (call (.type "enumerate") xs []) (PEnum vs σ.loc σ.H) X σ := by
  have rq := RepL.inv r; clear r; obtain ⟨_, _, rfl, r2, t⟩ := rq
  cases t.inv0; clear t
  cases r2 with
  | @lst _ l items n e hr =>
    intro zs z s hz hR
    refine call_enumerate_list (isList_of (hR.rh.hz _ _ (hz _ _ e))) fun h' e1 e2 e3 k => ?_
    obtain ⟨o, e2, c2, d2⟩ := e2
    have R1 : R C zs σ z { s with heap := h' } := hR.grow (t := s.toks) k
    have n0 : ∀ a, s.heap.objs.size ≤ a → z a = none := fun a ha => hR.rh.fresh_z ha
    have ap : ∀ a, s.heap.objs.size ≤ a → Apart C zs σ a := fun a ha => hR.apart_new ha
    have R2 := R1.ledger (o := .raw o) e2 (n0 _ (Nat.le_refl _)) (ap _ (Nat.le_refl _))
    have ap2 : ∀ {a b : Addr} {o : AO} {H : Led}, a ≠ b → Apart C zs ⟨σ.loc, H⟩ a → Apart C zs ⟨σ.loc, (b, o) :: H⟩ a := fun hab ⟨x, y, w, u⟩ => ⟨x, y, by rw [List.map_cons, List.mem_cons]; exact fun q => q.elim hab w, u⟩
    have R3 := R2.ledger (o := .raw (enumO s.heap.objs.size 0 .none)) e1 (n0 _ (Nat.le_succ _)) (ap2 (Nat.succ_ne_self _) (ap _ (Nat.le_succ _)))
    exact ⟨z, _, Z.le_refl _, R3, _, _, l, items, n, o, rfl, hz _ _ e, hr.mono hz, ⟨c2, d2⟩, rfl⟩
/-- two hidden objects have changed -/
theorem R.iter2 {I J : Addr} {oI oJ oI' oJ' : Obj} (hR : R C ((zs.put I oI).put J oJ) σ z s) (hI : zs I = none) (hJ : zs J = none) (hIJ : J ≠ I) (hfr : FrOK C.outer zs) (sI : Stays oI) (sJ : Stays oJ) {h' : Heap} {t : Nat}
    (k : ∀ b o, b ≠ J → b ≠ I → s.heap.get? b = some o → h'.get? b = some o) (eI : h'.get? I = some oI') (eJ : h'.get? J = some oJ') : R C ((zs.put I oI').put J oJ') σ z { s with heap := h', toks := t } := by
  have hJ' : (zs.put I oI) J = none := put_ne hIJ hJ
  obtain ⟨j0, j1, j2, j3, j4⟩ := hR.apartHid hJ' sJ
  have hR' : R C ((zs.put J oJ).put I oI) σ z s := by rw [Z.put_comm hIJ]; exact hR
  obtain ⟨i0, i1, i2, i3, i4⟩ := hR'.apartHid (put_ne (Ne.symm hIJ) hI) sI
  have low : ∀ b p, zs b = some p → b ≠ I ∧ b ≠ J ∧ ((zs.put I oI).put J oJ) b = some p := fun b p e => ⟨fun q => (by rw [q, hI] at e; cases e), fun q => (by rw [q, hJ] at e; cases e), put_le_of hJ' (put_le_of hI e)⟩
  have nz : ∀ b p, z b = some p → b ≠ J ∧ b ≠ I := fun b p hb => ⟨fun w => (by rw [w, j0] at hb; cases hb), fun w => (by rw [w, i0] at hb; cases hb)⟩
  have back : ∀ b p, ((zs.put I oI').put J oJ') b = some p → (b = J ∧ p = oJ') ∨ (b = I ∧ p = oI') ∨ zs b = some p := by
    intro b p e
    by_cases q : b = J
    · subst q; rw [put_self] at e; cases e; exact .inl ⟨rfl, rfl⟩
    · have e := put_some e q
      by_cases q2 : b = I
      · subst q2; rw [put_self] at e; cases e; exact .inr (.inl ⟨rfl, rfl⟩)
      · exact .inr (.inr (put_some e q2))
  have none' : ∀ b, ((zs.put I oI).put J oJ) b = none → ((zs.put I oI').put J oJ') b = none := fun b e => by
    obtain ⟨n1, e1⟩ := put_none e
    obtain ⟨n2, e2⟩ := put_none e1
    exact put_ne n1 (put_ne n2 e2)
  refine ⟨⟨fun b p hb => k b p (nz b p hb).1 (nz b p hb).2 (hR.rh.hz b p hb), hR.rh.hbase, fun b p hb => ?_, fun b p hb => ?_, fun p hp => ?_, hR.rh.nodup, hR.rh.gens, hR.rh.os⟩, ?_, fun x v h1 h2 => ?_, fun p hp => ?_, ?_, (hfr.put hI).put (put_ne hIJ hJ)⟩
  · rcases back b p hb with ⟨rfl, rfl⟩ | ⟨rfl, rfl⟩ | q
    · exact ⟨_, eJ, fun _ => rfl⟩
    · exact ⟨_, eI, fun _ => rfl⟩
    · obtain ⟨n1, n2, e⟩ := low b p q
      obtain ⟨sl, a, c⟩ := hR.rh.hzs b p e
      exact ⟨sl, k _ _ n2 n1 a, c⟩
  · rcases back b p hb with ⟨rfl, rfl⟩ | ⟨rfl, rfl⟩ | q
    · exact j0
    · exact i0
    · exact hR.rh.disj b p (low b p q).2.2
  · obtain ⟨a, b, c⟩ := hR.rh.hH p hp
    obtain ⟨n1, c1⟩ := put_none c
    obtain ⟨n2, c2⟩ := put_none c1
    exact ⟨a.keep fun o ho => k _ _ n1 n2 ho, b, none' _ c⟩
  · obtain ⟨m, ⟨ol, es, ep, a, b, c⟩, d⟩ := hR.ns
    exact ⟨m, ⟨ol, es, ep, k _ _ (Ne.symm j2) (Ne.symm i2) a, b, c⟩, d⟩
  · obtain ⟨c, val, a, ⟨oc, b1, b2⟩, d⟩ := hR.cells x v h1 h2
    exact ⟨c, val, a, ⟨oc, k _ _ (j4 _ (mem_of_lookup a)) (i4 _ (mem_of_lookup a)) b1, b2⟩, d⟩
  · obtain ⟨⟨ov, oc, b1, b2⟩, b, c, d⟩ := hR.cellsOk p hp
    exact ⟨⟨ov, oc, k _ _ (j4 p hp) (i4 p hp) b1, b2⟩, b, c.imp (none' _) id, d⟩
  · exact ⟨hR.locFree.1, none' _ hR.locFree.2.1, hR.locFree.2.2⟩
theorem BI_enumerate : bootBuiltins "enumerate" = some (.type "enumerate") := by kernel_rfl
inductive EnumI (C : Cx) (zs z1 : Z) (I E l : Addr) (Inv : Nat → St → Prop) (N n' : Nat) (s' : Shared) : Prop
  | mk (i : Nat) (σ' : St) (z' : Z) (o : Obj) (old : Value) (hn : n' = N - i) (hi : i ≤ N) (lz : Z.le z1 z') (r : R C ((zs.put I o).put E (enumO I i old)) σ' z' s') (hit : itO o l i) (inv : Inv i σ')
inductive EnumH (C : Cx) (target : Expr) (body orelse : List Stmt) (Q : Fl → St → Prop) (vs : List V) (σ1 : St) : Prop
  | mk (Inv : Nat → St → Prop) (i0 : Inv 0 σ1)
    (turn : ∀ i u σ, vs[i]? = some u → Inv i σ → TAs C target (.tup [.int i, u]) (fun σ' => TSs C body (LoopQ (Inv (i + 1)) Q) X0 σ') X0 σ)
    (fin : ∀ σ, Inv vs.length σ → TSs C orelse Q X0 σ)
theorem TS.forEnum {g : Gd} {n : Nat} {sc : Scope} {np ipos pos tp : Pos} {k : Nat} {t1 t2 : Expr} {args : List Expr} {body orelse : List Stmt} {Q : Fl → St → Prop} (hIn : In C g n sc) (hfr : Free g BI) (hl : sc.names.lookup ("enumerate" : Str) = some .globalImplicit)
    (h : TArgs C args (fun us σ1 => ∃ vs, us = [.lst vs] ∧ EnumH C (.Tuple [t1, t2] k tp) body orelse Q vs σ1) X σ)
    (hp : (backTo ipos (starEach args C.env)).any (·.1) = false := by rfl)
    (he : eval (.Call (.Name "enumerate" np) args [] ipos) C.env = (do callWith ipos (← eval (.Name "enumerate" np) C.env) [] (backTo ipos (starEach args C.env)) []) := by rfl)
    (hs : ∀ x, foldedSetIterable (.Call (.Name "enumerate" np) args [] ipos) C.env x = Pure.pure x := by intro _; rfl) : TS C (.For (.Tuple [t1, t2] k tp) (.Call (.Name "enumerate" np) args [] ipos) body orelse pos) Q X σ := by
  intro z₀ zs z s hz hR
  have hg := hIn.g
  subst hg
  have hh := hIn.calm
  refine wpAny_For ?_ hs
  have ev : TT C z₀ (eval (.Call (.Name "enumerate" np) args [] ipos) C.env) (fun z val σ' => ∃ vs σ1, PEnum vs σ1.loc σ1.H z val σ' ∧ EnumH C (.Tuple [t1, t2] k tp) body orelse Q vs σ1) X σ := by
    rw [he]
    refine TT.bind (TT.mono (TE.name_builtin (Q := fun v σ2 => v = .con (.type "enumerate") ∧ σ2 = σ) ((hIn.kind _).trans hl) (hfr _ (by decide +kernel)) BI_enumerate ⟨rfl, rfl⟩ (by decide +kernel) (by decide +kernel) z₀) ?_)
    rintro z2 fx σ2 l2 ⟨_, rf, rfl, rfl⟩
    cases rf
    refine TT.callWith (.ty "enumerate") hp (TT.mono (h ipos z2) ?_)
    rintro z3 xs σ3 l3 ⟨us, rs, vs, rfl, q⟩
    refine TT.mono (TT.enumL rs) ?_
    exact fun z4 val σ4 l4 pe => ⟨vs, σ3, pe, q⟩
  refine wpAny_mono (ev zs z s hz hR) ?_ fun _ _ x => x
  rintro x s1 ⟨z1, σ1, l1, R1, vs, σ0, ⟨E, I, l, items, n, o, rfl, hzl, hr, ho, rfl⟩, Inv, i0, turn, fin⟩
  have hE1 : s1.heap.get? E = some (enumO I 0 .none) := (R1.rh.hH _ List.mem_cons_self).1
  obtain ⟨Ra, zE, apE⟩ := R1.drop1
  obtain ⟨Rb, zI, apI⟩ := Ra.drop1
  have hI1 : s1.heap.get? I = some o := (R1.rh.hH (I, _) (List.mem_cons_of_mem _ List.mem_cons_self)).1
  have hEI : E ≠ I := by
    have := R1.rh.nodup
    simp only [List.map_cons, List.nodup_cons, List.mem_cons, not_or] at this
    exact this.1.1
  have zsE := apE.1
  have zsI := apI.1
  have hRc : R C ((zs.put I o).put E (enumO I 0 .none)) σ0 z1 s1 := by
    have Rc := Rb.hideAt hI1 zI apI
    refine Rc.hideAt hE1 zE ⟨put_ne hEI zsE, apE.2.1, fun q => apE.2.2.1 (by rw [List.map_cons]; exact List.mem_cons_of_mem _ q), apE.2.2.2⟩
  have hlen : items.length = vs.length := hr.length
  refine wpAny_pyIter_enum hE1 ?_
  refine codeAny_loop' rfl (EnumI C zs z1 I E l Inv vs.length) (fun n' s' hi => ?_) vs.length ⟨0, σ0, z1, o, .none, rfl, Nat.zero_le _, Z.le_refl _, hRc, ho, i0⟩
  obtain ⟨i, σ', z', o', old, hn, hile, lz, R', hit, inv⟩ := hi
  have sE : Stays (enumO I i old) := Stays.fields rfl
  have sI : Stays o' := Stays.fields hit.2
  have hEat := R'.rh.hidden put_self sE
  have R'' : R C ((zs.put E (enumO I i old)).put I o') σ' z' s' := by rw [Z.put_comm hEI]; exact R'
  have hIat := R''.rh.hidden put_self sI
  show wpAny _ _ ((forTurn (.Tuple [t1, t2] k tp) (.ref E) body orelse C.env).onRaise (fun x => do noteFrame x C.env; theTreesLotGoes x)) _ _ s'
  refine wpAny_noted ?_
  simp only [forTurn]
  refine wpAny_bind (wpAny_standAt (wpAny_bind (wpAny_onRaise ?_)))
  have hl' : s'.heap.IsList l items.toArray := isList_of (R'.rh.hz _ _ (lz _ _ hzl))
  rcases Nat.lt_or_ge i vs.length with hlt | hge
  · have hv : vs[i]? = some vs[i] := List.getElem?_eq_getElem hlt
    obtain ⟨x, hx, rx⟩ := (hr.mono lz).get hv
    refine wpAny_pyNext_enum_item hEat ⟨o', hIat, hit.1, hit.2⟩ hl' (x := x) (by simpa using hx) hEI fun h1 heo hit1 ht1 hz1 hk1 => ?_
    obtain ⟨o1, e1, c1, d1⟩ := hit1
    have R1' : R C ((zs.put I o1).put E { cls := .type "enumerate", dict := none, data := .fields #[rawInt s'.heap.objs.size, .bool false, .ref I, rawInt ((i : Int) + 1), .none, x], slots := #[] }) σ' z' { s' with heap := h1, toks := s'.toks + 1 } :=
      R'.iter2 zsI zsE hEI hR.fr sI sE hk1 e1 heo
    have apT : Apart C ((zs.put I o').put E (enumO I i old)) σ' s'.heap.objs.size := R'.apart_new (Nat.le_refl _)
    have zT : z' s'.heap.objs.size = none := R'.rh.fresh_z (Nat.le_refl _)
    obtain ⟨nE, q1⟩ := put_none apT.1
    obtain ⟨nI, q2⟩ := put_none q1
    have lT := Z.le_put R1'.rh ht1
    have R2 := R1'.freeze ht1 ⟨put_ne nE (put_ne nI q2), apT.2⟩
    refine wpAny_bind (wpAny_letOwnedTupleGo_enum heo fun h2 he2 hs2 => ?_)
    have R3 : R C ((zs.put I o1).put E (enumO I ((i : Int) + 1) x)) σ' (z'.put s'.heap.objs.size { cls := .type "tuple", data := .seq #[.int (i : Int) s'.toks, x] }) { s' with heap := h2, toks := s'.toks + 1 } :=
      R2.iter (t := s'.toks + 1) (put_ne hEI zsE) (hR.fr.put zsI) (Stays.fields rfl) hs2.extBut he2
    have rt : Rep (z'.put s'.heap.objs.size { cls := .type "tuple", data := .seq #[.int (i : Int) s'.toks, x] }) (.tup [.int i, vs[i]]) (.ref s'.heap.objs.size) := .tup (n := 0) (items := [.int (i : Int) s'.toks, x]) put_self (.cons (.int _ _) (.cons (rx.mono lT) .nil))
    refine wpAny_bind (wpAny_mono (turn i _ σ' hv inv _ _ rt _ _ _ (Z.le_refl _) R3) ?_ fun _ _ x => x.absurd)
    rintro ⟨⟩ s3 ⟨z3, σ3, l3, R3, k3⟩
    refine wpAny_bind (wpAny_mono (k3 z3 _ _ _ (Z.le_refl _) R3) ?_ fun _ _ x => x.absurd)
    rintro f s4 ⟨z4, σ4, l4, R4, fl, rf, k4⟩
    have lz' := Z.le_trans (Z.le_trans (Z.le_trans lz lT) l3) l4
    have R5 : R C ((zs.put I o1).put E (enumO I ((i + 1 : Nat) : Int) x)) σ4 z4 s4 := by
      have e : ((i + 1 : Nat) : Int) = (i : Int) + 1 := by push_cast; rfl
      rw [e]; exact R4
    have again : Inv (i + 1) σ4 → ∃ m, m < n' ∧ EnumI C zs z1 I E l Inv vs.length m s4 := fun k4 =>
      ⟨vs.length - (i + 1), by omega, i + 1, σ4, z4, o1, x, rfl, by omega, lz', R5, ⟨c1, d1⟩, k4⟩
    have out : R C zs σ4 z4 s4 := by
      have Ro := R4.unhide (put_ne hEI zsE) (hR.fr.put zsI) (Stays.fields rfl) (t := s4.toks) (h' := s4.heap) fun b o _ e => e
      exact Ro.unhide zsI hR.fr (Stays.fields d1) (t := s4.toks) (h' := s4.heap) fun b o _ e => e
    cases rf with
    | next => exact wpAny_pure (.inl ⟨rfl, again k4⟩)
    | cont => exact wpAny_pure (.inl ⟨rfl, again k4⟩)
    | brk => exact wpAny_pure ⟨z4, σ4, Z.le_trans l1 lz', out, .next, .next, k4⟩
    | ret rw' => exact wpAny_pure ⟨z4, σ4, Z.le_trans l1 lz', out, .ret _, .ret rw', k4⟩
  · have he : i = vs.length := by omega
    subst he
    refine wpAny_pyNext_enum_end (A := C.A) hh hEat ⟨o', hIat, hit.1, hit.2⟩ hl' (by simp [hlen]) fun h' hx => ?_
    refine wpAny_pure (.inr ⟨rfl, codeAny_block ?_⟩)
    have Ro : R C (zs.put I o') σ' z' s' := R'.unhide (put_ne hEI zsE) (hR.fr.put zsI) sE (t := s'.toks) (h' := s'.heap) fun b o _ e => e
    have R5 : R C zs σ' z' { s' with heap := h' } := Ro.unhide zsI hR.fr sI hx
    refine wpAny_mono (fin σ' inv z' zs z' _ (Z.le_refl _) R5) ?_ fun _ _ x => x.absurd
    rintro f s4 ⟨z4, σ4, l4, R4, q⟩
    exact ⟨z4, σ4, Z.le_trans l1 (Z.le_trans lz l4), R4, q⟩
end
end PL

end
section
open PySem PySem.Calls PyProof.Rows
set_option Elab.async false
set_option linter.unusedVariables false
set_option linter.unusedSimpArgs false
set_option linter.unusedSectionVars false
set_option maxRecDepth 100000
namespace PL
/-! sets of truth values -/
noncomputable def hB (b : Bool) : Int := if b then 1 else 0
noncomputable def esB (f t : Bool) : Array (Int × Value) := (if f then #[(0, Value.bool false)] else #[]) ++ (if t then #[(1, Value.bool true)] else #[])
noncomputable def tbB (led f t : Bool) : SetTable := { mask := 7, place := (if f then #[0] else #[]) ++ (if t then #[1] else #[]), dummies := #[], finger := 0, led := led, moves := 0, plain := true }
noncomputable abbrev setO (led f t : Bool) (ep : Nat) : Obj := { cls := .type "set", dict := none, data := .set (esB f t) ep (tbB led f t), slots := #[] }
theorem layB (led f t b : Bool) (h : (if b then t else f) = false) : layNew (tbB led f t) (esB f t) (hB b) (.bool b) = (esB (f || !b) (t || b), tbB led (f || !b) (t || b), false, false) := by
  cases led <;> cases f <;> cases t <;> cases b <;> first | (simp at h; done) | (decide +kernel) | rfl
noncomputable def isB (k : Bool) (v : Value) : Bool := match v with
  | .bool b => b == k
  | _ => false
theorem isB_shape {k : Bool} {v : Value} (h : isB k v = true) : v = .bool k := by
  cases v <;> simp [isB] at h
  rw [h]
section
variable {prog : Program} {w : World} {A : Around} {E : Value → Shared → Prop} {s : Shared}
theorem pyHash_bool {b : Bool} {Q : Int → Shared → Prop} (h : Q (hB b) { s with toks := s.toks + 1 }) : wpAny (model prog w) A (pyHash (.bool b)) Q E s := by
  have hT : s.TypeIs (.bool b) "bool" := rfl
  unfold pyHash
  have hv : [Value.bool b].any Value.onHeap = false := rfl
  refine wpAny_bind ?_
  rw [cRoomFor, if_neg (by rw [hv]; exact Bool.false_ne_true)]; refine wpAny_pure ?_
  refine wpAny_bind (wpAny_specialOf hT PySem.F.slot_bool_hash.lookup ?_)
  show wpAny _ _ (if (some (Value.builtin "int.__hash__") == some Value.none) = true then _ else _) Q E s
  rw [if_neg (by rw [beq_builtin_none]; exact Bool.false_ne_true)]
  refine wpAny_bind (wpAny_specialOf hT PySem.F.slot_bool_hash.lookup ?_)
  show wpAny _ _ (callSpecialIfBoundUnlessNone? (.bool b) "__hash__" _ >>= _) Q E s
  cases b with
  | false =>
    refine wpAny_bind (wpAny_callSpecialIfBoundUnlessNone?_slot hT PySem.F.slot_bool_hash
      (wpAny_call_entry PySem.F.slot_bool_hash hT PySem.F.entry_int_hash
        (show wpAny _ _ (do ret (← mkInt 0)) _ _ s from wpAny_ret_mkInt ?_) (PySem.F.args_int_hash_1 _)))
    exact wpAny_pure h
  | true =>
    refine wpAny_bind (wpAny_callSpecialIfBoundUnlessNone?_slot hT PySem.F.slot_bool_hash
      (wpAny_call_entry PySem.F.slot_bool_hash hT PySem.F.entry_int_hash
        (show wpAny _ _ (do ret (← mkInt 1)) _ _ s from wpAny_ret_mkInt ?_) (PySem.F.args_int_hash_1 _)))
    exact wpAny_pure h
theorem eqB {a b : Bool} {u v : Value} {Q : Bool → Shared → Prop} (hu : isB a u = true) (hv : isB b v = true) (h : Q (decide (a = b)) s) : wpAny (model prog w) A (eqBool u v) Q E s := by
  rw [isB_shape hu, isB_shape hv]
  have e : decide (a = b) = (a == b) := by cases a <;> cases b <;> rfl
  rw [e] at h
  exact SeqAt.EqAt.bool_bool a b prog w E Q h
end
noncomputable def boolKind (prog : Program) (w : World) : PySem.KeyKind prog w Bool where
  is := isB
  hash := hB
  inj := fun v a b ha hb => by
    have h1 := isB_shape ha
    have h2 := isB_shape hb
    rw [h1] at h2; injection h2
  byValue := fun k v h => by rw [isB_shape h]; rfl
  pyHash := fun hv h => by rw [isB_shape hv]; exact pyHash_bool h
  eqBool := fun hu hv h => eqB hu hv h
  «strs» := fun k x t v h => by simp [isB] at h
theorem elB (prog : Program) (w : World) (f t : Bool) : ElemsOf (boolKind prog w) (esB f t).toList := by
  intro e he
  cases f <;> cases t <;> simp [esB] at he
  · subst he; exact ⟨⟨true, rfl, rfl⟩, rfl⟩
  · subst he; exact ⟨⟨false, rfl, rfl⟩, rfl⟩
  · rcases he with rfl | rfl
    · exact ⟨⟨false, rfl, rfl⟩, rfl⟩
    · exact ⟨⟨true, rfl, rfl⟩, rfl⟩
theorem fitB (led f t : Bool) : (tbB led f t).fits (esB f t).size = true := by cases led <;> cases f <;> cases t <;> decide
section
variable {prog : Program} {w : World} {A : Around} {E : Value → Shared → Prop} {s : Shared}
theorem inB : ∀ f t b : Bool, (if b then t else f) = true → (f || !b) = f ∧ (t || b) = t := by decide
theorem findB : ∀ f t b : Bool, (if b then t else f) = true → ((esB f t).toList.findIdx? fun e => isB b e.2).isSome = true := by decide
theorem findB0 : ∀ f t b : Bool, (if b then t else f) = false → ((esB f t).toList.findIdx? fun e => isB b e.2).isNone = true := by decide
theorem scanB : ∀ f t b : Bool, byScan (.bool b) (esB f t) = true := by decide +kernel
theorem fullB : ∀ led f t b : Bool, (!false && (tbB led (f || !b) (t || b)).tooFull) = false := by decide +kernel
theorem sizeB : ∀ f t b : Bool, (esB (f || !b) (t || b)).size ≤ 2 := by decide +kernel
theorem call_set_addB {a : Addr} {led f t b : Bool} {ep : Nat} {Q : Value → Shared → Prop} (ha : s.heap.get? a = some (setO led f t ep))
    (h : ∀ h' ep', Heap.SameBut a s.heap h' → h'.get? a = some (setO led (f || !b) (t || b) ep') → Q .none { s with heap := h', toks := s.toks + 1 }) :
    wpAny (model prog w) A (call (.builtin "set.add") [.ref a, .bool b]) Q E s := by
  have hT : s.TypeIs (.ref a) "set" := ⟨_, ha, rfl⟩
  refine wpAny_call_entry PySem.F.slot_set_add hT PySem.F.entry_set_add ?_ (PySem.F.args_set_add_2 _ _)
  unfold Builtin.«set.add» Builtin.Frozenset.oneOther
  simp only [List.isEmpty_nil, bind_assoc]
  unfold Builtin.Frozenset.addrOf setAdd
  refine wpAny_bind (wpAny_pure ?_)
  try dsimp only
  refine wpAny_bind (wpAny_pure ?_)
  try dsimp only
  refine wpAny_bind ?_
  refine wpAny_holding ?_
  refine wpAny_bind (pyHash_bool ?_)
  unfold setAddHashed setAddHashedIn
  have hel := elB prog w f t
  refine wpAny_holding (wpAny_bind (wpAny_setState_of (es := esB f t) (ep := ep) (t := tbB led f t) ha rfl (fitB led f t) ?_))
  dsimp only
  rw [scanB f t b, if_pos rfl]
  unfold setAddByScan
  refine wpAny_bind ?_
  refine wpAny_bind (wpAny_rule ?_)
  refine wpAny_bind (wpAny_setScan_of (knd := boolKind prog w) (k := b) (by simp [boolKind, isB]) ha rfl (fitB led f t) hel ?_)
  by_cases hin : (if b then t else f) = true
  · have hr : ∃ j, List.findIdx? (fun e => (boolKind prog w).is b e.2) (esB f t).toList = some j := Option.isSome_iff_exists.mp (findB f t b hin)
    obtain ⟨j, hr⟩ := hr
    rw [hr]
    refine wpAny_pure (wpAny_pure ?_)
    show wpAny _ _ (ret Value.none) _ _ _
    obtain ⟨e1, e2⟩ := inB f t b hin
    have := h s.heap ep (Heap.SameBut.refl a s.heap)
    rw [e1, e2] at this
    exact wpAny_pure ⟨_, rfl, this ha⟩
  · have hin : (if b then t else f) = false := by simpa using hin
    have hr : List.findIdx? (fun e => (boolKind prog w).is b e.2) (esB f t).toList = none := Option.isNone_iff_eq_none.mp (findB0 f t b hin)
    rw [hr]
    dsimp only
    have e0 : (boolKind prog w).hash b = hB b := rfl
    try rw [e0]
    rw [layB led f t b hin]
    dsimp only
    refine wpAny_bind (wpAny_pure ?_)
    have hp : (tbB led (f || !b) (t || b)).plain = true := rfl
    rw [hp]
    simp only [↓reduceIte]
    refine wpAny_bind ?_
    rw [hashByValue_scannable 8 rfl]
    refine wpAny_pure ?_
    have e3 : plainKind (.bool b) = true := rfl
    rw [e3]
    simp only [↓reduceIte]
    refine wpAny_bind (wpAny_storeSet_of ha rfl ?_ (Nat.le_trans (sizeB f t b) (by rw [sizeLine_eq]; decide)))
    rw [fullB led f t b]
    simp only [Bool.false_eq_true, ↓reduceIte]
    refine wpAny_pure (wpAny_pure ?_)
    show wpAny _ _ (ret Value.none) _ _ _
    refine wpAny_pure ⟨_, rfl, h _ (ep + 1) (Heap.SameBut.update ..) ?_⟩
    rw [Heap.get?_update_self _ ha rfl]
    rfl
theorem newSetB {Q : Value → Shared → Prop} (h : Q (.ref s.heap.objs.size) { s with heap := s.heap.push (setO (!(w.params.followText "set-order")) false false 0) }) : wpAny (model prog w) A (newSet (.type "set")) Q E s := by
  unfold newSet setsByText
  refine wpAny_bind (wpAny_bind (wpAny_askSetting (wpAny_pure ?_)))
  dsimp only
  simp only [newObj]
  exact wpAny_bind (wpAny_alloc (wpAny_pure h))
end
end PL

end
section
open PySem PySem.Calls PyProof.Rows
set_option Elab.async false
set_option linter.unusedVariables false
set_option linter.unusedSimpArgs false
set_option linter.unusedSectionVars false
set_option maxRecDepth 100000
namespace PL
/-! exceptions: made, caught, passed on -/
section
variable {g : Gd} {zs : Z} {H : Led} {z : Z} {s : Shared}
end
section
variable {C : Cx} {zs z : Z} {σ : St} {s : Shared}
end
/-! raw steps of an exception in its frame -/
section
variable {M : Model} {A : Around} {E : Value → Shared → Prop} {s : Shared}
end
/-! the exception caught: its record and its traceback entry are hidden -/
section
variable {C : Cx} {zs z : Z} {σ : St} {s : Shared} {a T : Addr} {oe oT : Obj} {vs ts : Array Value} {cls : String}
end
end PL

end
section
open PySem PySem.Calls PyProof.Rows
set_option Elab.async false
set_option linter.unusedVariables false
set_option linter.unusedSimpArgs false
set_option linter.unusedSectionVars false
set_option maxRecDepth 100000
namespace PL
/-! try -/
section
variable {C : Cx} {zs z : Z} {σ : St} {s : Shared} {cls : String} {E : Value → Shared → Prop} {Q : Unit → Shared → Prop}
end
section
variable {C : Cx} {zs z : Z} {σ : St} {s : Shared} {cls : String} {a : Addr}
end
end PL

end
section
open PySem PySem.Calls PyProof.Rows
set_option Elab.async false
set_option linter.unusedVariables false
set_option linter.unusedSimpArgs false
set_option linter.unusedSectionVars false
set_option maxRecDepth 100000
namespace PL
/-! a set of truth values, comprehended -/
noncomputable def ledOf (C : Cx) : Bool := !(C.g.w.params.followText "set-order")
theorem compTurn_set (elt target iter : Expr) (ifs : List Expr) (scope : Scope) (pos : Pos) (it acc : Value) (env : Env) :
    compTurn (.SetComp elt [⟨target, iter, ifs, 0⟩] scope pos) 0 it acc env = (do
      standAt iter.pos
      match ← pyNext it with
      | none => pure (.done .next)
      | some v =>
        letOwnedTupleGo target it v
        assign target env v
        let mut ok := true
        for c in ifs do
          if ok then ok ← isTrue c env (eval c env)
        if ok then
          (do let v ← eval elt env; standAt elt.pos; let _ ← call (.builtin "set.add") [acc, v])
        again (.compLoop (.SetComp elt [⟨target, iter, ifs, 0⟩] scope pos) 0 it acc env)) := by rfl
section
variable {prog : Program} {w : World} {A : Around} {R : Result → Shared → Prop} {s : Shared}
theorem codeAny_compStart_set {elt target iter : Expr} {ifs : List Expr} {rest : List Comprehension} {scope : Scope} {pos : Pos} {it acc : Value} {env : Env}
    (h0 : codeAny (model prog w) A (.compLoop (.SetComp elt (⟨target, iter, ifs, 0⟩ :: rest) scope pos) 0 it acc env) R s)
    (h : wpAny (model prog w) A (pyIter it) (fun it' s' => codeAny (model prog w) A (.compLoop (.SetComp elt (⟨target, iter, ifs, 0⟩ :: rest) scope pos) 0 it' acc env) R s')
      (notedBy (model prog w) A env fun x s' => R (.error x) s') s) :
    codeAny (model prog w) A (.compStart (.SetComp elt (⟨target, iter, ifs, 0⟩ :: rest) scope pos) 0 it acc env) R s := by
  refine codeAny_of_tree ?_
  show wpAny _ _ ((compStart (.SetComp elt (⟨target, iter, ifs, 0⟩ :: rest) scope pos) 0 it acc env).onRaise (fun x => do noteFrame x env; standAt theWindowsPlace)) _ _ s
  refine wpAny_notedAt ?_
  unfold compStart
  show wpAny _ _ (ask >>= _) _ _ s
  refine wpAny_bind (wpAny_askSetting (wpAny_ite ?_))
  split
  · first
      | exact wpAny_bind (wpAny_pure (wpAny_pure (And.intro rfl h0)))
      | exact wpAny_pure (And.intro rfl h0)
  · first
      | exact wpAny_bind (wpAny_rule (wpAny_bind (wpAny_standAt (wpAny_bind (wpAny_mono h (fun it' s' h' => wpAny_pure (And.intro rfl h')) fun _ _ x => x)))))
      | (refine wpAny_bind (wpAny_rule ?_); show wpAny _ _ (standAt iter.pos >>= _) _ _ s; exact wpAny_bind (wpAny_standAt (wpAny_bind (wpAny_mono h (fun it' s' h' => wpAny_pure (And.intro rfl h')) fun _ _ x => x))))
end
section
variable {C : Cx} {X : XP} {σ : St}
inductive SetI (C' : Cx) (zz z1 : Z) (I D : Addr) (J : Nat → Obj → Prop) (N : Nat) (F : Nat → Nat → Obj) (σ0 : St) (m : Nat) (s' : Shared) : Prop
  | mk (i : Nat) (z' : Z) (σ' : St) (o : Obj) (ep : Nat) (hm : m = N - i) (hi : i ≤ N) (lz : Z.le z1 z') (r : R C' ((zz.put I o).put D (F i ep)) σ' z' s') (le : Le σ0 σ') (hJ : J i o)
inductive CompB (C : Cx) (g : Gd) (n : Nat) (sc scope : Scope) (target elt : Expr) (Q : V → St → Prop) (v : V) (σ1 : St) : Prop
  | mk (α : Type) (xs : List α) (φ : α → V) (f : α → Bool) (L : List (Str × V)) (H0 : Led) (S : Led → Prop) (w : Walk C v (xs.map φ) S) (hS : ∀ H', H0.Sublist H' → S H') (hH : H0.Sublist σ1.H)
    (hL : ∀ x u, L.lookup x = some u → σ1.loc.lookup x = some u ∧ (x, NameKind.free) ∈ scope.names) (hl : xs.length ≤ 16777216)
    (turn : ∀ C', In C' g n (relabelS scope sc) → ∀ x ∈ xs, CTurn C' target [] elt (φ x) (some (.bool (f x))) X0 ⟨L, H0⟩)
    (k : ∀ a ep, Q (.ref a) ⟨σ1.loc, (a, .raw (setO (ledOf C) (xs.any fun x => !f x) (xs.any f) ep)) :: H0⟩)
theorem TT.setcompB {g : Gd} {n : Nat} {sc scope : Scope} {elt target iter : Expr} {pos : Pos} {z₀ : Z} {Q : V → St → Prop} (hIn : In C g n sc) (K : CompOK scope sc)
    (h : TE C iter (CompB C g n sc scope target elt Q) X σ)
    (hs : ∀ x, foldedSetIterable iter C.env x = Pure.pure x := by intro _; rfl) : TT C z₀ (eval (.SetComp elt [⟨target, iter, [], 0⟩] scope pos) C.env) (PVal Q) X σ := by
  show TT C z₀ (comprehension (.SetComp elt [⟨target, iter, [], 0⟩] scope pos) scope C.env (firstIterPos [⟨target, iter, [], 0⟩] pos) (newSet (.type "set")) (firstAsync [⟨target, iter, [], 0⟩]) (firstIter [⟨target, iter, [], 0⟩] C.env) none) (PVal Q) X σ
  intro zs z s hz hR
  have hclo : ∀ x ∈ scope.names, x.2 = .free → ∃ c, C.env.cells.lookup x.1 = some c := fun x hx hf => hIn.cell _ (K.free x hx hf)
  have hnames : ∀ x ∈ scope.names, x.2 = .local → scope.names.lookup x.1 = some .local := fun x hx hl => by rw [← hl]; exact lookup_of_nodup K.nodup hx
  refine wpAny_comprehension_free (g := ⟨target, iter, [], 0⟩) (use := none) (gs := []) rfl hs (closureFor_closOf hclo) K.kind hnames ?_
  show wpAny _ _ (eval iter C.env) _ _ s
  refine wpAny_mono (h z₀ zs z s hz hR) ?_ fun _ _ x => x
  rintro x s1 ⟨z1, σ1, l1, R1, v, rv, α, xs, φ, f, L, H0, S, W, hS, hH0, hL, hlen, turn, fin⟩
  obtain ⟨J, WO, st⟩ := W.start z1 x rv
  have WO := WO C.A hIn.calm
  refine st zs z1 σ1 s1 _ _ (Z.le_refl _) R1 (hS _ hH0) fun o hJ hfr => ?_
  refine newSetB ?_
  refine wpAny_newFunctionEnv K.nocell (by intro x hx; simp at hx) (fun h4 hns hsb => ?_) K.kind
  have szI : (s1.heap.push o).objs.size = s1.heap.objs.size + 1 := Heap.size_push ..
  have szD : ((s1.heap.push o).push (setO (ledOf C) false false 0)).objs.size = s1.heap.objs.size + 2 := by rw [Heap.size_push, szI]
  dsimp only at hns hsb ⊢
  rw [show (!C.g.w.params.followText "set-order") = ledOf C from rfl] at hns hsb ⊢
  rw [szD] at hns hsb ⊢
  rw [szI]
  have lo : ∀ b o', b < s1.heap.objs.size + 2 → ((s1.heap.push o).push (setO (ledOf C) false false 0)).get? b = some o' → h4.get? b = some o' := fun b o' hb e =>
    (hsb.2 b (Nat.ne_of_lt hb)).trans (Heap.get?_push_of_some _ e)
  have eI : h4.get? s1.heap.objs.size = some o := lo _ _ (by omega) (Heap.get?_push_of_some _ (Heap.get?_push_size _ hfr))
  have eD : h4.get? (s1.heap.objs.size + 1) = some (setO (ledOf C) false false 0) := lo _ _ (by omega) (by have := Heap.get?_push_size (h := s1.heap.push o) (o := setO (ledOf C) false false 0) rfl; rw [szI] at this; exact this)
  have old : ∀ b o', s1.heap.get? b = some o' → h4.get? b = some o' := fun b o' e => lo _ _ (Nat.lt_of_lt_of_le (Heap.lt_size e) (Nat.le_add_right _ 2)) (Heap.get?_push_of_some _ (Heap.get?_push_of_some _ e))
  have fz : ∀ a, s1.heap.objs.size ≤ a → z1 a = none := fun a ha => R1.rh.fresh_z ha
  have fa : ∀ a, s1.heap.objs.size ≤ a → Apart C zs ⟨σ1.loc, H0⟩ a := fun a ha => let ⟨a1, a2, a3, a4⟩ := R1.apart_new ha; ⟨a1, a2, fun e => a3 ((hH0.map _).subset e), a4⟩
  have R4 : R C zs ⟨σ1.loc, H0⟩ z1 { s1 with heap := h4, toks := s1.toks + ([] : List (Str × Value)).length } := (R1.grow old).weaken (fun _ _ h => h) hH0
  generalize hs4 : ({ s1 with heap := h4, toks := s1.toks + ([] : List (Str × Value)).length } : Shared) = s4 at R4 ⊢
  have hh4 : s4.heap = h4 := by rw [← hs4]
  generalize hLc : s1.heap.objs.size + 2 = Lc at *
  generalize hD : s1.heap.objs.size + 1 = D at *
  generalize hI : s1.heap.objs.size = I at *
  have hID : I ≠ D := by omega
  have hIL : Lc ≠ I := by omega
  have hDL : Lc ≠ D := by omega
  obtain ⟨fr, hfrA, hfrOK⟩ := R4.frames
  have fr0 : FrOK fr (hid C zs s4.heap) := hfrOK _ fun _ _ e => e
  have hidn : ∀ a, I ≤ a → hid C zs s4.heap a = none := fun a ha => by
    obtain ⟨a1, a2, a3, a4⟩ := fa a ha
    exact hid_none a2 (fun e => by obtain ⟨p, hp, e⟩ := List.mem_map.mp e; exact a4 p hp e) a1
  have r0 := R4.hide
  have rI := r0.hideAt (by rw [hh4]; exact eI) (fz I (Nat.le_refl _)) (hidn I (Nat.le_refl _)) (fa I (Nat.le_refl _)).2.2.1
  have rD := rI.hideAt (by rw [hh4]; exact eD) (fz D (by omega)) (put_ne (Ne.symm hID) (hidn D (by omega))) (fa D (by omega)).2.2.1
  let C' : Cx := {
    g := C.g, A := C.A, env := compEnvC scope (closOf scope.names C.env.cells []) Lc C.env, outer := fr, n := C.n
    ro := scope.names.map (·.1)
    hk := K.kind
    hglob := C.hglob, hbuilt := C.hbuilt, hdep := C.hdep, hunits := C.hunits, hframes := .inr hfrA
    apart := by
      have hp := closOf_pair scope.names C.env.cells [] K.nodup List.Pairwise.nil (fun _ h => by cases h)
      have hmem : ∀ p ∈ closOf scope.names C.env.cells [], p ∈ C.env.cells := by
        intro p hp
        rcases closOf_mem _ _ _ p hp with h | ⟨h1, h2⟩
        · cases h
        · obtain ⟨c, hc⟩ := hclo _ h1 rfl
          have hc : C.env.cells.lookup p.1 = some c := hc
          rw [hc] at h2
          have := mem_of_lookup' hc
          have e : p = (p.1, c) := by rw [← show p.2 = c from h2]
          rw [e]; exact this
      have : ∀ l : List (Str × Addr), l.Pairwise (fun x y => x.1 ≠ y.1) → (∀ p ∈ l, p ∈ C.env.cells) → l.Pairwise (fun x y => x.2 ≠ y.2) := by
        intro l hl hm
        refine List.Pairwise.imp_of_mem ?_ hl
        intro a b ha hb hab e
        refine hab (name_of_addr C.apart (c := b.2) ?_ (hm b hb))
        rw [← e]; exact hm a ha
      exact this _ hp hmem }
  have hcell' : ∀ p ∈ closOf scope.names C.env.cells [], (p.1, NameKind.free) ∈ scope.names ∧ p ∈ C.env.cells := by
    intro p hp
    rcases closOf_mem _ _ _ p hp with h | ⟨h1, h2⟩
    · cases h
    · obtain ⟨c, hc⟩ := hclo _ h1 rfl
      have hc : C.env.cells.lookup p.1 = some c := hc
      rw [hc] at h2
      have := mem_of_lookup' hc
      have e : p = (p.1, c) := by rw [← show p.2 = c from h2]
      exact ⟨h1, by rw [e]; exact this⟩
  have hIn' : In C' g n (relabelS scope sc) := ⟨hIn.g, hIn.n, fun x => by show (relabel scope C.env).names.lookup x = _; rw [relabel_eq hIn.fn], fun x hx => by
      have hm := relabel_cell K hx
      obtain ⟨c, hc⟩ := hclo _ hm rfl
      exact ⟨c, closOf_lookup _ _ _ _ _ K.nodup hm hc⟩, hIn.calm, relabel_eq hIn.fn, hIn.gl⟩
  have cellNe : ∀ p ∈ C.env.cells, p.2 < I := by
    intro p hp
    obtain ⟨⟨ov, ic⟩, _⟩ := R1.cellsOk p hp
    exact hI ▸ ic.lt
  have kindL : ∀ x u, L.lookup x = some u → C'.env.kindOf x = some .cell := fun x u hx => by
    rw [hIn'.kind]; exact relabel_free K (hL x u hx).2
  have R0 : R C' (((hid C zs s4.heap).put I o).put D (setO (ledOf C) false false 0)) ⟨L, H0⟩ z1 s4 := by
    refine ⟨rD, ⟨_, by rw [hh4]; exact hns, fun x u hx hk => ?_⟩, fun x u hx hk => ?_, fun p hp => ?_, ⟨fz _ (by show I ≤ Lc; omega), put_ne hDL (put_ne hIL (hidn Lc (by omega))), (fa Lc (by omega)).2.2.1⟩, ?_⟩
    · rw [kindL x u hx] at hk; cases hk
    · obtain ⟨h1, h2⟩ := hL x u hx
      have hk1 : C.env.kindOf x = some .cell := (hIn.kind x).trans (K.free _ h2 rfl)
      obtain ⟨c, val, e1, e2, e3⟩ := R4.cells x u h1 (by rw [hk1]; rfl)
      exact ⟨c, val, closOf_lookup _ _ _ _ _ K.nodup h2 e1, e2, e3⟩
    · obtain ⟨h1, h2⟩ := hcell' p hp
      obtain ⟨a, b, _, d, e⟩ := R4.cellsOk p h2
      exact ⟨a, b, .inr (List.mem_map_of_mem (f := (·.1)) h1), Nat.ne_of_lt (Nat.lt_of_lt_of_le (cellNe p h2) (show I ≤ Lc by omega)), e⟩
    · exact (fr0.put (hidn I (Nat.le_refl _))).put (put_ne (Ne.symm hID) (hidn D (by omega)))
  have hI0 := hidn I (Nat.le_refl _)
  have hD0 := hidn D (by omega)
  have sSet : ∀ f t ep, Stays (setO (ledOf C) f t ep) := fun f t ep => ⟨fun _ e => (by cases e), fun _ _ e => (by cases e)⟩
  have loop : codeAny C.M C.A (.compLoop (.SetComp elt [⟨target, iter, [], 0⟩] scope pos) 0 (.ref I) (.ref D) C'.env)
      (compPost C.M C.A (PX C zs z X) none (Post C zs z (PVal Q)) (.ref D) Lc) s4 := by
    generalize hRes : compPost C.M C.A (PX C zs z X) none (Post C zs z (PVal Q)) (.ref D) Lc = Res
    refine codeAny_loop rfl (SetI C' (hid C zs s4.heap) z1 I D J xs.length (fun i ep => setO (ledOf C) ((xs.take i).any fun x => !f x) ((xs.take i).any f) ep) ⟨L, H0⟩)
      (fun m s' hi => ?_) xs.length ⟨0, z1, _, o, 0, rfl, Nat.zero_le _, Z.le_refl _, R0, Le.refl _, hJ⟩
    obtain ⟨i, z', σ', o', ep, hm, hile, lz, R', le', hJ'⟩ := hi
    obtain ⟨fs, hfs⟩ := WO.fields _ _ hJ'
    have stay := Stays.fields hfs
    show wpAny _ _ ((compTurn (.SetComp elt [⟨target, iter, [], 0⟩] scope pos) 0 (.ref I) (.ref D) C'.env).onRaise (fun x => do noteFrame x C'.env; theTreesLotGoes x)) _ _ s'
    refine wpAny_noted ?_
    rw [compTurn_set]
    have R1' : R C' (((hid C zs s4.heap).put D (setO (ledOf C) ((xs.take i).any fun x => !f x) ((xs.take i).any f) ep)).put I o') σ' z' s' := by rw [Z.put_comm (Ne.symm hID)]; exact R'
    have hat := R1'.rh.hidden put_self stay
    refine wpAny_bind (wpAny_standAt (wpAny_bind ?_))
    rcases Nat.lt_or_ge i xs.length with hlt | hge
    · have hx : xs[i]? = some xs[i] := List.getElem?_eq_getElem hlt
      have hv : (xs.map φ)[i]? = some (φ xs[i]) := by rw [List.getElem?_map, hx]; rfl
      refine WO.item _ _ _ s' I o' i _ _ _ hJ' hv R1'.rh ⟨lz, hS _ le'.led⟩ hat fun h' t o'' val e1 hJ'' hsb rv' => ?_
      have R2 := (R1'.iter (put_ne hID hI0) (fr0.put hD0) stay hsb.extBut e1 (t := t)).weaken (σ' := ⟨L, H0⟩) le'.loc le'.led
      refine wpAny_bind (letOwned e1 (WO.cls _ _ hJ'') ?_)
      refine wpAny_bind (wpAny_mono (turn C' hIn' _ (List.getElem_mem hlt) z' val rv' _ _ _ (Z.le_refl _) R2) ?_ fun _ _ x => x.absurd)
      rintro ⟨⟩ s3 ⟨z3, σ3, l3, R3, k3⟩
      refine wpAny_bind (wpAny_mono (k3 z3 _ _ _ (Z.le_refl _) R3) ?_ fun _ _ x => x.absurd)
      rintro ok s5 ⟨z5, σ5, l5, R5, k5⟩
      obtain ⟨fs', hfs'⟩ := WO.fields _ _ hJ''
      cases ok with
      | false => obtain ⟨hout, hle⟩ := k5; cases hout
      | true =>
        refine wpAny_bind (wpAny_bind (wpAny_mono (k5 z5 _ _ _ (Z.le_refl _) R5) ?_ fun _ _ x => x.absurd))
        rintro y s6 ⟨z6, σ6, l6, R6, u, ru, hout, hle⟩
        have hout : V.bool (f xs[i]) = u := Option.some.inj hout
        subst hout
        have ruq := ru.e; clear ru; obtain ⟨_, rfl⟩ := ruq
        have R6' : R C' (((hid C zs s4.heap).put I o'').put D (setO (ledOf C) ((xs.take i).any fun x => !f x) ((xs.take i).any f) ep)) σ6 z6 s6 := by rw [Z.put_comm hID]; exact R6
        have hatD := R6'.rh.hidden put_self (sSet _ _ _)
        refine wpAny_bind (wpAny_standAt (wpAny_bind (call_set_addB hatD fun h'' ep' hsb' e2 => ?_)))
        have R7 := R6'.iter (put_ne (Ne.symm hID) hD0) (fr0.put hI0) (sSet _ _ _) hsb'.extBut e2 (t := s6.toks + 1)
        have et1 : ((xs.take (i + 1)).any fun x => !f x) = (((xs.take i).any fun x => !f x) || !f xs[i]) := by rw [List.take_add_one, hx, List.any_append]; simp
        have et2 : ((xs.take (i + 1)).any f) = (((xs.take i).any f) || f xs[i]) := by rw [List.take_add_one, hx, List.any_append]; simp
        refine wpAny_pure (wpAny_pure ⟨rfl, xs.length - (i + 1), by omega, i + 1, z6, σ6, o'', ep', rfl, by omega, Z.le_trans lz (Z.le_trans l3 (Z.le_trans l5 l6)), ?_, hle, hJ''⟩)
        rw [et1, et2]; exact R7
    · have he : i = xs.length := by omega
      subst he
      have hlenm : (xs.map φ).length = xs.length := List.length_map ..
      refine WO.fin _ _ _ s' I o' _ _ (by rw [hlenm]; exact hJ') R1'.rh ⟨lz, hS _ le'.led⟩ hat fun h' hx => ?_
      refine wpAny_pure ?_
      have R2 := R1'.unhide (put_ne hID hI0) (fr0.put hD0) stay hx (t := s'.toks)
      obtain ⟨ms, hms, _⟩ := R2.ns
      have hatD := R2.rh.hidden put_self (sSet _ _ _)
      have rr : RH C.g (hid C zs s4.heap) σ'.H z' { s' with heap := h' } := R2.rh.unhide hD0
      have Rb := (R4.back lz rr).weaken (σ' := ⟨σ1.loc, H0⟩) (fun _ _ h => h) le'.led
      obtain ⟨oL, esL, epL, eL, dL, _⟩ := id hms
      have apL := fa Lc (by omega)
      have Rl := Rb.hideAt (I := Lc) (o := oL) eL R2.locFree.1 apL
      rw [List.take_length] at hatD
      obtain ⟨d1, d2, d3, d4⟩ := fa D (by omega)
      subst hRes
      refine ⟨ms, hms, fun h2 hsb2 => ?_⟩
      have R9 := Rl.unhideC apL.1 hR.fr (fun ov e => by rw [dL] at e; cases e) (t := s'.toks) hsb2.extBut
      have hD2 : h2.get? D = some (setO (ledOf C) (xs.any fun x => !f x) (xs.any f) ep) := (hsb2.2 D (Ne.symm hDL)).trans hatD
      exact ⟨z', _, Z.le_trans l1 lz, R9.ledger (o := .raw (setO (ledOf C) (xs.any fun x => !f x) (xs.any f) ep)) hD2 (R2.rh.disj _ _ put_self) ⟨d1, d2, d3, d4⟩, _, .ref D, fin D ep⟩
  exact codeAny_compStart_set loop (WO.self s4 I o _ _ hJ (by rw [hh4]; exact eI) loop)
end
end PL

end
section
open PySem PySem.Calls PyProof.Rows
set_option Elab.async false
set_option linter.unusedVariables false
set_option linter.unusedSimpArgs false
set_option linter.unusedSectionVars false
set_option maxRecDepth 100000
namespace PL
/-! the iterator of a set of truth values -/
theorem slot_setit_next : Slot "set_iterator" "__next__" "set_iterator.__next__" :=
  .of (owner := "set_iterator") (n := "__next__") (by rw [typeLookup_type, builtinLookup_eq_fast]; kernel_rfl) (by decide +kernel) (by decide +kernel) (by decide +kernel)
    (by first | exact .inl (by decide +kernel) | exact .inr (by decide +kernel)) (by rw [isSubtype_type]; kernel_rfl)
theorem entry_setit_next : entryFor table "set_iterator.__next__" = some Builtin.«set_iterator.__next__» := entryFor_of_tree (by kernel_rfl)
theorem owner_setit : Manifest.owners.lookup (String.ofList ['r', 'o', 't', 'a', 'r', 'e', 't', 'i', '_', 't', 'e', 's'].reverse) = some Manifest.sig_set_iterator := by kernel_rfl
theorem args_setit_next (a : Value) : argsOk "set_iterator.__next__" ⟨[a], []⟩ := by
  unfold argsOk; rw [signature?_of (id := "set_iterator.__next__") (n := ['_', '_', 't', 'x', 'e', 'n', '_', '_']) (o := ['r', 'o', 't', 'a', 'r', 'e', 't', 'i', '_', 't', 'e', 's']) (by kernel_rfl) owner_setit]; kernel_rfl
theorem entry_set_iter' : entryFor table "set.__iter__" = some Builtin.«frozenset.__iter__» :=
  entryFor_alias (id' := "frozenset.__iter__") (by rw [fastTable_eq_tree]; kernel_rfl) rfl (by decide +kernel) (by rw [fastTable_eq_tree]; kernel_rfl)
noncomputable abbrev sitO (D : Addr) (slot i n ep : Nat) : Obj := { cls := .type "set_iterator", data := .fields #[.int (slot : Int) 0, .int (i : Int) 0, .ref D, .int (n : Int) 0, .int (ep : Int) 0] }
noncomputable def szB (f t : Bool) : Nat := (esB f t).size
noncomputable def slotOK (by_ f t : Bool) (slot i : Nat) : Prop := by_ = true ∨ SetTable.below (tbB true f t).place slot = i
theorem slotOK_zero (by_ f t : Bool) : slotOK by_ f t 0 0 := by cases by_ <;> cases f <;> cases t <;> first | exact .inl rfl | exact .inr rfl
theorem go_size {α : Type} (next : Nat → Nat) : ∀ (n k : Nat) (l : List α) (out : Array α), l.length = n → (pickOrder.go next n k l out).size = out.size + n ∧ ∀ x ∈ pickOrder.go next n k l out, x ∈ out ∨ x ∈ l
  | 0, k, l, out, h => ⟨rfl, fun x hx => .inl hx⟩
  | n + 1, k, l, out, h => by
    have hlt : next k % l.length < l.length := Nat.mod_lt _ (by (clear out k next; (first | lia | omega)))
    show (pickOrder.go next (n + 1) k l out).size = _ ∧ _
    unfold pickOrder.go
    rw [List.getElem?_eq_getElem hlt]
    dsimp only
    obtain ⟨h1, h2⟩ := go_size next n (k + 1) (l.eraseIdx (next k % l.length)) (out.push l[next k % l.length]) (by rw [List.length_eraseIdx_of_lt hlt]; (clear hlt out k next; (first | lia | omega)))
    refine ⟨by rw [h1, Array.size_push]; (clear h2 h1 h hlt l k next; (first | lia | omega)), fun x hx => ?_⟩
    rcases h2 x hx with h | h
    · rcases Array.mem_push.mp h with h | h
      · exact .inl h
      · exact .inr (h ▸ List.getElem_mem hlt)
    · exact .inr (List.mem_of_mem_eraseIdx h)
theorem pick_size {α : Type} (next : Nat → Nat) (xs : Array α) : (pickOrder next xs).size = xs.size := by
  have := (go_size next xs.size 0 xs.toList #[] (by simp)).1
  simpa [pickOrder] using this
theorem pick_mem {α : Type} (next : Nat → Nat) (xs : Array α) {x : α} (h : x ∈ pickOrder next xs) : x ∈ xs := by
  rcases (go_size next xs.size 0 xs.toList #[] (by simp)).2 x h with h | h
  · simp at h
  · simpa using h
theorem esB_mem {f t : Bool} {e : Int × Value} (h : e ∈ esB f t) : ∃ b, e.2 = .bool b ∧ (if b then t else f) = true := by
  cases f <;> cases t <;> simp [esB] at h
  · subst h; exact ⟨true, rfl, rfl⟩
  · subst h; exact ⟨false, rfl, rfl⟩
  · rcases h with rfl | rfl
    · exact ⟨false, rfl, rfl⟩
    · exact ⟨true, rfl, rfl⟩
section
variable {prog : Program} {w : World} {A : Around} {E : Value → Shared → Prop} {s : Shared}
theorem wpAny_setsByText {Q : Bool → Shared → Prop} (h : Q (w.params.followText "set-order") s) : wpAny (model prog w) A setsByText Q E s := by
  unfold setsByText
  exact wpAny_bind (wpAny_askSetting (wpAny_pure h))
theorem pyIter_setB {a : Addr} {led f t : Bool} {ep : Nat} {Q : Value → Shared → Prop} (ha : s.heap.get? a = some (setO led f t ep))
    (h : Q (.ref s.heap.objs.size) { s with heap := s.heap.push (sitO a 0 0 (szB f t) ep) }) : wpAny (model prog w) A (pyIter (.ref a)) Q E s := by
  have hT : s.TypeIs (.ref a) "set" := ⟨_, ha, rfl⟩
  refine wpAny_pyIter_slot hT PySem.F.slot_set_iter (wpAny_call_entry PySem.F.slot_set_iter hT entry_set_iter' ?_ (PySem.F.args_set_iter_1 _))
  unfold Builtin.«frozenset.__iter__» Builtin.Frozenset.slot0 slotArgs
  simp only [List.isEmpty_nil, Bool.not_true, Bool.false_eq_true, ↓reduceIte, bind_assoc, List.length_nil, bne_self_eq_false]
  unfold Builtin.Frozenset.addrOf Builtin.Frozenset.sizeOf setDrawn
  refine wpAny_bind (wpAny_pure ?_)
  try dsimp only
  refine wpAny_bind (wpAny_pure ?_)
  refine wpAny_bind (wpAny_bind (wpAny_setEntries_of ha rfl (fitB led f t) (wpAny_pure ?_)))
  simp only [bind_assoc]
  refine wpAny_bind (wpAny_setState_of ha rfl (fitB led f t) ?_)
  dsimp only
  refine wpAny_bind (wpAny_setsByText ?_)
  refine wpAny_bind (wpAny_pure ?_)
  refine wpAny_ite_split (fun q => ?_) fun _ => ?_
  · exfalso
    have : ∀ x : Bool, (!x && (!true && decide ((esB f t).size > 1))) = false := fun x => by cases x <;> rfl
    have q' : (!w.params.followText "set-order" && (!true && decide ((esB f t).size > 1))) = true := q
    rw [this] at q'; cases q'
  · refine wpAny_bind (wpAny_pure ?_)
    refine wpAny_bind (wpAny_setEpoch_of ha rfl (fitB led f t) ?_)
    exact wpAny_bind (wpAny_newObj_type (wpAny_pure ⟨_, rfl, "set_iterator", _, ⟨_, Heap.get?_push_size _ rfl, rfl⟩, slot_setit_next.lookup, h⟩))
theorem setNext_item {a : Addr} {f t : Bool} {ep slot i : Nat} {Q : Option (Value × Nat) → Shared → Prop} (ha : s.heap.get? a = some (setO (!(w.params.followText "set-order")) f t ep))
    (hi : i < szB f t) (ho : slotOK (w.params.followText "set-order") f t slot i)
    (h : ∀ b slot', (if b then t else f) = true → slotOK (w.params.followText "set-order") f t slot' (i + 1) → Q (some (.bool b, slot')) s) : wpAny (model prog w) A (setNext a slot i ep) Q E s := by
  unfold setNext
  refine wpAny_bind (wpAny_setState_of ha rfl (fitB _ f t) ?_)
  dsimp only
  refine wpAny_bind (wpAny_setsByText ?_)
  cases hb : w.params.followText "set-order" with
  | true =>
    rw [if_pos rfl, if_neg (by simp)]
    unfold setWalk
    refine wpAny_bind (wpAny_bind (wpAny_setState_of ha rfl (fitB _ f t) ?_))
    dsimp only
    refine wpAny_bind (wpAny_setsByText ?_)
    rw [hb, if_pos rfl]
    refine wpAny_bind (wpAny_askSetting (wpAny_pure (wpAny_pure ?_)))
    have hlt : i < (pickOrder (w.params.setOrder a ep) (esB f t)).size := by rw [pick_size]; exact hi
    obtain ⟨b, e1, e2⟩ := esB_mem (pick_mem _ _ (Array.getElem_mem hlt))
    have hg : (pickOrder (w.params.setOrder a ep) (esB f t))[i]? = some (pickOrder (w.params.setOrder a ep) (esB f t))[i] := Array.getElem?_eq_getElem hlt
    show Q (Option.map _ ((pickOrder (w.params.setOrder a ep) (esB f t))[i]?)) s
    rw [hg, Option.map_some, e1]
    exact h b slot e2 (by rw [hb]; exact .inl rfl)
  | false =>
    rw [if_neg Bool.false_ne_true]
    refine wpAny_ite_split (fun q => ?_) fun _ => ?_
    · exfalso
      have q' : (!true && decide ((esB f t).size > 1)) = true := q
      simp at q'
    · rw [hb] at ho ha
      simp only [Bool.not_false] at ha ⊢
      refine wpAny_bind ?_
      change wpAny _ _ (if (!true && !(esB f t).isEmpty) = true then _ else pure ()) _ _ _
      rw [if_neg (by simp)]
      refine wpAny_pure ?_
      · rcases ho with q | ho
        · cases q
        · refine wpAny_pure ?_
          rw [ho]
          rw [hb] at h
          cases f <;> cases t
          · simp [szB, esB] at hi
          · have : i = 0 := by simp [szB, esB] at hi; exact hi
            subst this
            exact h true 2 rfl (.inr rfl)
          · have : i = 0 := by simp [szB, esB] at hi; exact hi
            subst this
            exact h false 1 rfl (.inr rfl)
          · have : i = 0 ∨ i = 1 := by simp [szB, esB] at hi; (clear ha h hb Q ep a ho slot; (first | lia | omega))
            rcases this with rfl | rfl
            · exact h false 1 rfl (.inr rfl)
            · exact h true 2 rfl (.inr rfl)
theorem setNext_end {a : Addr} {f t : Bool} {ep slot i : Nat} {Q : Option (Value × Nat) → Shared → Prop} (ha : s.heap.get? a = some (setO (!(w.params.followText "set-order")) f t ep))
    (hi : i = szB f t) (ho : slotOK (w.params.followText "set-order") f t slot i) (h : Q none s) : wpAny (model prog w) A (setNext a slot i ep) Q E s := by
  unfold setNext
  refine wpAny_bind (wpAny_setState_of ha rfl (fitB _ f t) ?_)
  dsimp only
  refine wpAny_bind (wpAny_setsByText ?_)
  cases hb : w.params.followText "set-order" with
  | true =>
    rw [if_pos rfl, if_neg (by simp)]
    unfold setWalk
    refine wpAny_bind (wpAny_bind (wpAny_setState_of ha rfl (fitB _ f t) ?_))
    dsimp only
    refine wpAny_bind (wpAny_setsByText ?_)
    rw [hb, if_pos rfl]
    refine wpAny_bind (wpAny_askSetting (wpAny_pure (wpAny_pure ?_)))
    have hg : (pickOrder (w.params.setOrder a ep) (esB f t))[i]? = none := by rw [Array.getElem?_eq_none_iff, pick_size, hi]; exact Nat.le_refl _
    show Q (Option.map _ ((pickOrder (w.params.setOrder a ep) (esB f t))[i]?)) s
    rw [hg]; exact h
  | false =>
    rw [if_neg Bool.false_ne_true]
    refine wpAny_ite_split (fun q => ?_) fun _ => ?_
    · exfalso
      have q' : (!true && decide ((esB f t).size > 1)) = true := q
      simp at q'
    · rw [hb] at ho ha
      simp only [Bool.not_false] at ha ⊢
      refine wpAny_bind ?_
      change wpAny _ _ (if (!true && !(esB f t).isEmpty) = true then _ else pure ()) _ _ _
      rw [if_neg (by simp)]
      refine wpAny_pure ?_
      · rcases ho with q | ho
        · cases q
        · refine wpAny_pure ?_
          rw [ho]
          subst hi
          cases f <;> cases t <;> exact h
theorem next_head {it a : Addr} {f t : Bool} {ep slot i : Nat} {Q : PySem.Fin → Shared → Prop} (hit : s.heap.get? it = some (sitO a slot i (szB f t) ep)) (ha : s.heap.get? a = some (setO (!(w.params.followText "set-order")) f t ep))
    (h : wpAny (model prog w) A (setNext a slot i ep >>= fun r => match r with
      | some (x, next) => do setField (.ref it) 0 (rawInt next); setField (.ref it) 1 (rawInt (i + 1)); ret x
      | none => do setField (.ref it) 2 .none; raiseNew (← newExc (.type "StopIteration") [])) Q E s) : wpAny (model prog w) A (Builtin.«set_iterator.__next__» ⟨[.ref it], []⟩) Q E s := by
  unfold Builtin.«set_iterator.__next__» slotArgs
  dsimp only [List.isEmpty_nil, Bool.not_true, List.length_nil, bne_self_eq_false]
  refine wpAny_bind (wpAny_pure ?_)
  dsimp only
  refine wpAny_bind (wpAny_fieldsOf hit rfl ?_)
  show wpAny _ _ (setEntries a >>= fun es => if ((es.size : Int) != (szB f t : Int)) = true then _ else setNext a ((slot : Int)).toNat ((i : Int)).toNat ((ep : Int)).toNat >>= _) _ _ _
  refine wpAny_bind (wpAny_setEntries_of ha rfl (fitB _ f t) ?_)
  rw [if_neg (by simp [szB])]
  exact h
theorem pyNext_setB {it a : Addr} {f t : Bool} {ep slot i : Nat} {Q : Option Value → Shared → Prop} (hit : s.heap.get? it = some (sitO a slot i (szB f t) ep)) (ha : s.heap.get? a = some (setO (!(w.params.followText "set-order")) f t ep))
    (hi : i < szB f t) (ho : slotOK (w.params.followText "set-order") f t slot i)
    (h : ∀ b slot' h', (if b then t else f) = true → slotOK (w.params.followText "set-order") f t slot' (i + 1) → h'.get? it = some (sitO a slot' (i + 1) (szB f t) ep) → Heap.SameBut it s.heap h' → Q (some (.bool b)) { s with heap := h' }) :
    wpAny (model prog w) A (pyNext (.ref it)) Q E s := by
  have hT : s.TypeIs (.ref it) "set_iterator" := ⟨_, hit, rfl⟩
  unfold pyNext
  refine wpAny_bind (wpAny_attempt (wpAny_callSpecial?_slot (name := Str.ofString "__next__") hT slot_setit_next
    (wpAny_call_entry slot_setit_next hT entry_setit_next ?_ (args_setit_next _))))
  refine next_head hit ha (wpAny_bind (setNext_item ha hi ho fun b slot' hb hs => ?_))
  dsimp only
  refine wpAny_bind (wpAny_setField hit rfl (by simp) ?_)
  have e1 := Heap.get?_update_self (Obj.mapFields (·.setIfInBounds 0 (rawInt slot'))) hit rfl
  refine wpAny_bind (wpAny_setField e1 rfl (by simp) (wpAny_pure ⟨_, rfl, wpAny_pure (h b slot' _ hb hs ?_ ((Heap.SameBut.update ..).trans (Heap.SameBut.update ..)))⟩))
  rw [Heap.get?_update_self _ e1 rfl]
  rfl
theorem pyNext_setB_end {it a : Addr} {f t : Bool} {ep slot i : Nat} {Q : Option Value → Shared → Prop} (hh : A.handled = none) (hit : s.heap.get? it = some (sitO a slot i (szB f t) ep)) (ha : s.heap.get? a = some (setO (!(w.params.followText "set-order")) f t ep))
    (hi : i = szB f t) (ho : slotOK (w.params.followText "set-order") f t slot i)
    (h : ∀ h', Heap.ExtBut it s.heap h' → Q none { s with heap := h' }) : wpAny (model prog w) A (pyNext (.ref it)) Q E s := by
  have hT : s.TypeIs (.ref it) "set_iterator" := ⟨_, hit, rfl⟩
  unfold pyNext
  refine wpAny_bind (wpAny_attempt (wpAny_callSpecial?_slot (name := Str.ofString "__next__") hT slot_setit_next
    (wpAny_call_entry slot_setit_next hT entry_setit_next ?_ (args_setit_next _))))
  refine next_head hit ha (wpAny_bind (setNext_end ha hi ho ?_))
  dsimp only
  refine wpAny_bind (wpAny_setField hit rfl (by simp) ?_)
  show wpAny _ _ (newExc (.type "StopIteration") [] >>= _) _ _ _
  refine wpAny_bind ?_
  simp only [newExc, newTuple]
  refine wpAny_bind (wpAny_newObj_type ?_ (by size_fits))
  refine wpAny_bind (m := firstArgMember _ _) (wpAny_of_eq (a := Value.none) (by first | rfl | (simp only [firstArgMember]; rfl)) ?_)
  refine wpAny_newObj_type ?_ (by size_fits)
  simp only [raiseNew]
  refine wpAny_bind (wpAny_handled ?_)
  first | rw [show A.in1.handled = none from hh] | rw [hh]
  refine wpAny_bind (wpAny_pure (wpAny_throw ?_))
  refine wpAny_bind (wpAny_isInstance (T := "StopIteration") (b := true) ⟨_, Heap.get?_push_size _ rfl, rfl⟩ isSubtype_stop ?_)
  exact wpAny_pure (h _ (((Heap.SameBut.update ..).extBut.push _).push _))
end
end PL

end
section
open PySem PySem.Calls PyProof.Rows
set_option Elab.async false
set_option linter.unusedVariables false
set_option linter.unusedSimpArgs false
set_option linter.unusedSectionVars false
set_option maxRecDepth 100000
namespace PL
/-! one name takes the one item of a set of truth values; a raise in a handler -/
section
variable {prog : Program} {w : World} {A : Around} {E : Value → Shared → Prop} {s : Shared}
theorem unpackItems_one {a : Addr} {f t b : Bool} {ep : Nat} {Q : List Value → Shared → Prop} (hh : A.handled = none) (ha : s.heap.get? a = some (setO (!(w.params.followText "set-order")) f t ep))
    (h1 : f = !b) (h2 : t = b) (hQ : ∀ h', Heap.ExtBut s.heap.objs.size s.heap h' → Q [.bool b] { s with heap := h' }) : wpAny (model prog w) A (unpackItems (.ref a) 1 none) Q E s := by
  have hT : s.TypeIs (.ref a) "set" := ⟨_, ha, rfl⟩
  have hlt : a ≠ s.heap.objs.size := Nat.ne_of_lt (Heap.lt_size ha)
  have hsz : szB f t = 1 := by subst h1 h2; cases t <;> rfl
  unfold unpackItems
  refine wpAny_bind ?_
  unfold notIterableAtAll
  refine wpAny_bind (wpAny_specialOf hT PySem.F.slot_set_iter.lookup ?_)
  refine wpAny_pure ?_
  simp only [Bool.false_eq_true, if_false]
  refine wpAny_bind (wpAny_holding (pyIter_setB ha ?_))
  have e0 : (s.heap.push (sitO a 0 0 (szB f t) ep)).get? s.heap.objs.size = some (sitO a 0 0 (szB f t) ep) := Heap.get?_push_size _ rfl
  have a0 : (s.heap.push (sitO a 0 0 (szB f t) ep)).get? a = some (setO (!(w.params.followText "set-order")) f t ep) := Heap.get?_push_of_some _ ha
  refine wpAny_bind (wpAny_holding ?_)
  show wpAny _ _ (pyNext (.ref s.heap.objs.size) >>= _) _ _ _
  refine wpAny_bind (pyNext_setB e0 a0 (by (clear a0 e0 hlt hT hQ h2 h1 ha hh Q ep b a; (first | lia | omega))) (slotOK_zero _ _ _) fun c slot' h' hc hs e1 sb => ?_)
  have hcb : c = b := by subst h1 h2; cases c <;> cases t <;> first | rfl | (simp at hc)
  subst hcb
  refine wpAny_bind (wpAny_holding (wpAny_pure (wpAny_pure ?_)))
  rw [if_neg (by simp)]
  have a1 : h'.get? a = some (setO (!(w.params.followText "set-order")) f t ep) := (sb.2 a hlt).trans a0
  refine wpAny_bind (wpAny_holding (pyNext_setB_end hh e1 a1 (by (clear a1 hQ h2 h1 sb e1 hs hc h' slot' c a0 e0 hlt hT ha hh Q ep a; (first | lia | omega))) hs fun h'' x => ?_))
  simp only [Option.isSome_none, Bool.false_eq_true, if_false]
  exact wpAny_pure (hQ h'' fun b o hb e => x b o hb (sb.extBut b o hb (Heap.get?_push_of_some _ e)))
end
/-! the statement itself -/
section
variable {C : Cx} {X : XP} {σ : St}

end
end PL

end
section
open PySem PySem.Calls PyProof.Rows
set_option Elab.async false
set_option linter.unusedVariables false
set_option linter.unusedSimpArgs false
set_option linter.unusedSectionVars false
namespace PL
/-! what commonpath answers -/
section
variable {C : Cx} {X : XP} {σ : St} {Q : V → St → Prop} {g : Gd} {n : Nat} {sc : Scope}
theorem TE.nameF (hIn : In C g n sc) {p : Program} {i : Nat} {a : Addr} {x : Str} {np : Pos} (hf : Fn g p i a) (hx : nameAt p i = x) (hl : sc.names.lookup x = some .globalImplicit)
    (h : Q (.con (.ref a)) σ) (hd : (x == ("__debug__" : Str)) = false := by decide +kernel) : TE C (.Name x np) Q X σ := by
  have hg := hIn.g
  subst hg
  exact TE.name_glob ((hIn.kind x).trans hl) (hx ▸ hf.1) h hd
theorem TE.setcompB {scope : Scope} {elt target iter : Expr} {pos : Pos} (hIn : In C g n sc) (K : CompOK scope sc)
    (h : TE C iter (CompB C g n sc scope target elt Q) X σ)
    (hs : ∀ x, foldedSetIterable iter C.env x = Pure.pure x := by intro _; rfl) : TE C (.SetComp elt [⟨target, iter, [], 0⟩] scope pos) Q X σ := fun z₀ => TT.setcompB hIn K h hs
end
/-- the names in a path -/
noncomputable def nm? (c : List Nat) : Bool := !(c == [] || c == [46])
noncomputable def compsS (l : List Nat) : List (List Nat) := (splitS 47 l).filter nm?
/-- what both begin with -/
noncomputable def pfx : List (List Nat) → List (List Nat) → List (List Nat)
  | x :: a, y :: b => if x = y then x :: pfx a b else []
  | _, _ => []
noncomputable def cpL (ls : List (List (List Nat))) : List (List Nat) := pfx (bestL .Lt ls) (bestL .Gt ls)
noncomputable def cpS (ps : List (List Nat)) : List Nat := (if headIs 47 (ps.headD []) then [47] else []) ++ joinS [47] (cpL (ps.map compsS))

theorem pfx_self (a : List (List Nat)) : pfx a a = a := by
  induction a with
  | nil => rfl
  | cons x a ih => rw [pfx, if_pos rfl, ih]
theorem pfx_comm : ∀ a b : List (List Nat), pfx a b = pfx b a
  | [], [] => rfl
  | [], _ :: _ => rfl
  | _ :: _, [] => rfl
  | x :: a, y :: b => by
    unfold pfx
    by_cases h : x = y
    · rw [if_pos h, if_pos h.symm, pfx_comm a b, h]
    · rw [if_neg h, if_neg (Ne.symm h)]
theorem pfx_ne : ∀ {a b : List (List Nat)} {i : Nat} {c d : List Nat}, a.take i = b.take i → a[i]? = some c → b[i]? = some d → c ≠ d → pfx a b = a.take i
  | [], _, _, _, _, _, h, _, _ => by simp at h
  | _ :: _, [], _, _, _, _, _, h, _ => by simp at h
  | x :: a, y :: b, 0, c, d, _, h1, h2, h3 => by
    simp at h1 h2; subst h1 h2
    rw [pfx, if_neg h3]; rfl
  | x :: a, y :: b, i + 1, c, d, h0, h1, h2, h3 => by
    simp only [List.take_succ_cons, List.cons.injEq] at h0
    rw [pfx, if_pos h0.1, List.take_succ_cons, pfx_ne h0.2 (by simpa using h1) (by simpa using h2) h3]
theorem pfx_all : ∀ {a b : List (List Nat)}, a.take a.length = b.take a.length → pfx a b = a
  | [], _, _ => rfl
  | _ :: _, [], h => by simp at h
  | x :: a, y :: b, h => by
    simp only [List.length_cons, List.take_succ_cons, List.cons.injEq] at h
    rw [pfx, if_pos h.1, pfx_all h.2]
theorem pfx_len : ∀ a b : List (List Nat), ∃ k, pfx a b = a.take k
  | [], b => ⟨0, by cases b <;> rfl⟩
  | x :: a, [] => ⟨0, rfl⟩
  | x :: a, y :: b => by
    unfold pfx
    by_cases h : x = y
    · obtain ⟨k, hk⟩ := pfx_len a b
      exact ⟨k + 1, by rw [if_pos h, hk]; rfl⟩
    · exact ⟨0, by rw [if_neg h]; rfl⟩

/-! the order -/
theorem ltT_irrefl (a : List Nat) : ltT a a = false := by
  unfold ltT; exact decide_eq_false (List.lt_irrefl a)
theorem ltT_asymm {a b : List Nat} (h : ltT a b = true) : ltT b a = false := by
  unfold ltT at *
  exact decide_eq_false (List.lt_asymm (of_decide_eq_true h))
theorem ltT_trans {a b c : List Nat} (h : ltT a b = true) (k : ltT b c = true) : ltT a c = true := by
  unfold ltT at *
  exact decide_eq_true (List.lt_trans (of_decide_eq_true h) (of_decide_eq_true k))
theorem ltT_conn {a b : List Nat} (h : ltT a b = false) (k : ltT b a = false) : a = b := by
  unfold ltT at *
  exact List.le_antisymm (of_decide_eq_false k) (of_decide_eq_false h)
theorem ltS_irrefl : ∀ a : List (List Nat), ltS a a = false
  | [] => rfl
  | x :: a => by rw [ltS]; simp [ltS_irrefl a]
theorem ltS_asymm : ∀ {a b : List (List Nat)}, ltS a b = true → ltS b a = false
  | [], [], h => by cases h
  | [], _ :: _, _ => rfl
  | _ :: _, [], h => by cases h
  | x :: a, y :: b, h => by
    rw [ltS] at h ⊢
    by_cases e : x = y
    · subst e
      simp only [beq_self_eq_true, if_true] at h ⊢
      exact ltS_asymm h
    · rw [if_neg (by simpa using e)] at h
      rw [if_neg (by simpa using Ne.symm e)]
      exact ltT_asymm h
theorem ltS_conn : ∀ {a b : List (List Nat)}, ltS a b = false → ltS b a = false → a = b
  | [], [], _, _ => rfl
  | [], _ :: _, h, _ => by cases h
  | _ :: _, [], _, h => by cases h
  | x :: a, y :: b, h, k => by
    rw [ltS] at h k
    by_cases e : x = y
    · subst e
      simp only [beq_self_eq_true, if_true] at h k
      rw [ltS_conn h k]
    · rw [if_neg (by simpa using e)] at h
      rw [if_neg (by simpa using Ne.symm e)] at k
      exact absurd (ltT_conn h k) e
theorem ltS_trans : ∀ {a b c : List (List Nat)}, ltS a b = true → ltS b c = true → ltS a c = true
  | [], [], _, h, _ => by cases h
  | [], _ :: _, [], _, h => by cases h
  | [], _ :: _, _ :: _, _, _ => rfl
  | _ :: _, [], _, h, _ => by cases h
  | _ :: _, _ :: _, [], _, h => by cases h
  | x :: a, y :: b, w :: c, h, k => by
    rw [ltS] at h k ⊢
    by_cases e1 : x = y
    · subst e1
      simp only [beq_self_eq_true, if_true] at h
      by_cases e2 : x = w
      · subst e2
        simp only [beq_self_eq_true, if_true] at k ⊢
        exact ltS_trans h k
      · rw [if_neg (by simpa using e2)] at k ⊢
        exact k
    · rw [if_neg (by simpa using e1)] at h
      by_cases e2 : y = w
      · subst e2
        rw [if_neg (by simpa using e1)]
        exact h
      · rw [if_neg (by simpa using e2)] at k
        by_cases e3 : x = w
        · subst e3
          rw [ltT_asymm h] at k; cases k
        · rw [if_neg (by simpa using e3)]
          exact ltT_trans h k
/-- not before: the weak order -/
theorem leS_trans {a b c : List (List Nat)} (h : ltS b a = false) (k : ltS c b = false) : ltS c a = false := by
  cases q : ltS c a with
  | false => rfl
  | true =>
    cases q1 : ltS a b with
    | true => rw [ltS_trans q q1] at k; cases k
    | false =>
      have e := ltS_conn q1 h
      subst e
      rw [q] at k; cases k
theorem foldl_min : ∀ (r : List (List (List Nat))) (a : List (List Nat)), (ltS a (r.foldl (fun b x => if opS .Lt x b then x else b) a) = false) ∧ ∀ x ∈ r, ltS x (r.foldl (fun b x => if opS .Lt x b then x else b) a) = false
  | [], a => ⟨ltS_irrefl a, fun _ h => by cases h⟩
  | y :: r, a => by
    rw [List.foldl_cons]
    by_cases h : opS .Lt y a = true
    · rw [if_pos h]
      obtain ⟨h1, h2⟩ := foldl_min r y
      refine ⟨leS_trans h1 (ltS_asymm h), fun x hx => ?_⟩
      rcases List.mem_cons.mp hx with rfl | hx
      · exact h1
      · exact h2 x hx
    · rw [if_neg h]
      obtain ⟨h1, h2⟩ := foldl_min r a
      have h : ltS y a = false := by simpa [opS] using h
      refine ⟨h1, fun x hx => ?_⟩
      rcases List.mem_cons.mp hx with rfl | hx
      · exact leS_trans h1 h
      · exact h2 x hx
theorem foldl_max : ∀ (r : List (List (List Nat))) (a : List (List Nat)), (ltS (r.foldl (fun b x => if opS .Gt x b then x else b) a) a = false) ∧ ∀ x ∈ r, ltS (r.foldl (fun b x => if opS .Gt x b then x else b) a) x = false
  | [], a => ⟨ltS_irrefl a, fun _ h => by cases h⟩
  | y :: r, a => by
    rw [List.foldl_cons]
    by_cases h : opS .Gt y a = true
    · rw [if_pos h]
      obtain ⟨h1, h2⟩ := foldl_max r y
      refine ⟨leS_trans (ltS_asymm (show ltS a y = true from h)) h1, fun x hx => ?_⟩
      rcases List.mem_cons.mp hx with rfl | hx
      · exact h1
      · exact h2 x hx
    · rw [if_neg h]
      obtain ⟨h1, h2⟩ := foldl_max r a
      have h : ltS a y = false := by simpa [opS] using h
      refine ⟨h1, fun x hx => ?_⟩
      rcases List.mem_cons.mp hx with rfl | hx
      · exact leS_trans h h1
      · exact h2 x hx
theorem bestL_le (ls : List (List (List Nat))) : ltS (bestL .Gt ls) (bestL .Lt ls) = false := by
  cases ls with
  | nil => rfl
  | cons a r => exact leS_trans (foldl_min r a).1 (foldl_max r a).1
theorem foldl_mem (op : CmpOp) : ∀ (r : List (List (List Nat))) (a : List (List Nat)), r.foldl (fun b x => if opS op x b then x else b) a = a ∨ r.foldl (fun b x => if opS op x b then x else b) a ∈ r
  | [], a => .inl rfl
  | y :: r, a => by
    rw [List.foldl_cons]
    by_cases h : opS op y a = true
    · rw [if_pos h]
      rcases foldl_mem op r y with e | e
      · exact .inr (by rw [e]; exact List.mem_cons_self)
      · exact .inr (List.mem_cons_of_mem _ e)
    · rw [if_neg h]
      rcases foldl_mem op r a with e | e
      · exact .inl e
      · exact .inr (List.mem_cons_of_mem _ e)
theorem bestL_mem (op : CmpOp) {ls : List (List (List Nat))} (h : ls ≠ []) : bestL op ls ∈ ls := by
  cases ls with
  | nil => exact absurd rfl h
  | cons a r =>
    rcases foldl_mem op r a with e | e
    · show _ ∈ a :: r
      rw [show bestL op (a :: r) = a from e]; exact List.mem_cons_self
    · exact List.mem_cons_of_mem _ e
/-- where the first names are alike, the later list is no shorter -/
theorem le_reach : ∀ {a b : List (List Nat)} {i : Nat}, ltS b a = false → a.take i = b.take i → i < a.length → i < b.length
  | [], _, _, _, _, h => by simp at h
  | _ :: _, [], _, h, _, _ => by cases h
  | x :: a, y :: b, 0, _, _, _ => by simp
  | x :: a, y :: b, i + 1, h, k, l => by
    simp only [List.take_succ_cons, List.cons.injEq] at k
    obtain ⟨rfl, k⟩ := k
    rw [ltS] at h
    simp only [beq_self_eq_true, if_true] at h
    simp only [List.length_cons, Nat.add_lt_add_iff_right] at l ⊢
    exact le_reach h k l
theorem filterMap_if {α β : Type} (f : α → β) (q : α → Bool) : ∀ l : List α, l.filterMap (fun x => if q x then some (f x) else none) = (l.filter q).map f
  | [] => rfl
  | x :: l => by
    rw [List.filterMap_cons, List.filter_cons]
    cases q x with
    | true => simp only [if_true, List.map_cons, filterMap_if f q l]
    | false => simpa using filterMap_if f q l
theorem sumL_filter (q : List Nat → Bool) : ∀ l : List (List Nat), sumL (l.filter q) ≤ sumL l
  | [] => Nat.le_refl _
  | x :: l => by
    have ih := sumL_filter q l
    rw [List.filter_cons]
    cases q x with
    | true => simp only [if_true]; simp [sumL] at ih ⊢; (clear x; (first | lia | omega))
    | false => simp only [Bool.false_eq_true, if_false]; simp [sumL] at ih ⊢; (first | lia | omega)
theorem cpL_one (a : List (List Nat)) : cpL [a] = a := pfx_self a
theorem cpL_two (a b : List (List Nat)) : cpL [a, b] = pfx a b := by
  show pfx (if opS .Lt b a then b else a) (if opS .Gt b a then b else a) = _
  have e1 : opS .Lt b a = ltS b a := rfl
  have e2 : opS .Gt b a = ltS a b := rfl
  rw [e1, e2]
  cases h : ltS b a with
  | true => rw [if_pos rfl, ltS_asymm h, if_neg (by simp)]; exact pfx_comm _ _
  | false =>
    rw [if_neg (by simp)]
    cases k : ltS a b with
    | true => rw [if_pos rfl]
    | false => rw [if_neg (by simp), ltS_conn h k]
end PL

end
section
open PySem PySem.Calls PyProof.Rows
set_option Elab.async false
set_option linter.unusedVariables false
set_option linter.unusedSimpArgs false
set_option linter.unusedSectionVars false
set_option maxRecDepth 100000
namespace PL
section
variable {prog : Program} {w : World} {A : Around} {E : Value → Shared → Prop} {s : Shared}
end
section
variable {C : Cx} {X : XP} {σ : St} {Q : V → St → Prop}
end
end PL

end
section
open PySem PySem.Calls PyProof.Rows
set_option Elab.async false
set_option linter.unusedVariables false
set_option linter.unusedSimpArgs false
set_option linter.unusedSectionVars false
set_option maxRecDepth 100000
namespace PL
/-! where one stands -/
noncomputable def outH (r : Nat) (cs : List (List Nat)) : List Nat := List.replicate r 47 ++ joinS [47] cs
theorem outS_H (r : Nat) (cs : List (List Nat)) : outS r cs = if outH r cs = [] then [46] else outH r cs := rfl
noncomputable def consP (x : Nat) : List (List Nat) → List (List Nat)
  | [] => [[x]]
  | p :: ps => (x :: p) :: ps
theorem splitS_consE (c x : Nat) (r : List Nat) : splitS c (x :: r) = if x = c then [] :: splitS c r else consP x (splitS c r) := by
  show (if x = c then _ else _) = _
  split
  · rfl
  · cases splitS c r <;> rfl
theorem splitS_app (c : Nat) (b : List Nat) : ∀ a : List Nat, splitS c (a ++ c :: b) = splitS c a ++ splitS c b
  | [] => by rw [List.nil_append, splitS_slash]; rfl
  | x :: a => by
    have ih := splitS_app c b a
    rw [List.cons_append, splitS_consE, splitS_consE c x a, ih]
    by_cases h : x = c
    · rw [if_pos h, if_pos h]; rfl
    · rw [if_neg h, if_neg h]
      cases e : splitS c a with
      | nil => exact absurd e (splitS_ne c a)
      | cons p ps => rfl
theorem lastIs_snoc {c : Nat} {l : List Nat} (h : lastIs c l = true) : ∃ l', l = l' ++ [c] := by
  unfold lastIs at h
  rw [beq_iff_eq] at h
  obtain ⟨ys, rfl⟩ := List.getLast?_eq_some_iff.mp h
  exact ⟨ys, rfl⟩
theorem normC_app (r : Nat) (a b : List (List Nat)) : normC r (a ++ b) = b.foldl (stepN r) (normC r a) := by unfold normC; rw [List.foldl_append]
theorem normC_jn (r : Nat) (a b : List Nat) (hb : headIs 47 b = false) : normC r (splitS 47 (jn1 a b)) = (splitS 47 b).foldl (stepN r) (normC r (splitS 47 a)) := by
  unfold jn1
  by_cases ha : a = []
  · rw [if_pos (.inr ha)]
    subst ha
    have : normC r (splitS 47 []) = [] := by show stepN r [] [] = []; exact step_nil r []
    rw [this]; rfl
  · rw [if_neg (by rw [hb]; simpa using ha)]
    by_cases hl : lastIs 47 a = true
    · rw [if_pos hl]
      obtain ⟨a', rfl⟩ := lastIs_snoc hl
      have e1 : splitS 47 (a' ++ [47]) = splitS 47 a' ++ [[]] := splitS_app 47 [] a'
      have e2 : splitS 47 (a' ++ [47] ++ b) = splitS 47 a' ++ splitS 47 b := by rw [List.append_assoc]; exact splitS_app 47 b a'
      rw [e1, e2, normC_app, normC_app]
      show _ = (splitS 47 b).foldl (stepN r) (stepN r (normC r (splitS 47 a')) [])
      rw [step_nil]
    · rw [if_neg hl]
      have e2 : splitS 47 (a ++ ([47] ++ b)) = splitS 47 a ++ splitS 47 b := splitS_app 47 b a
      rw [e2, normC_app]
theorem leadN_cons (x : Nat) (l : List Nat) : leadN (x :: l) = if x = 47 then leadN l + 1 else 0 := by
  unfold leadN
  rw [List.takeWhile_cons]
  by_cases h : x = 47
  · simp [h]
  · simp [h]
theorem leadN_app : ∀ (a b : List Nat), headIs 47 b = false → leadN (a ++ b) = leadN a
  | [], b, h => by
    cases b with
    | nil => rfl
    | cons x b =>
      rw [List.nil_append, leadN_cons, if_neg]
      · rfl
      · intro e; subst e; cases h
  | x :: a, b, h => by
    rw [List.cons_append, leadN_cons, leadN_cons, leadN_app a b h]
theorem leadN_mid : ∀ (a b : List Nat), a ≠ [] → lastIs 47 a = false → leadN (a ++ b) = leadN a
  | [x], b, _, h => by
    have hx : x ≠ 47 := by intro e; subst e; cases h
    rw [List.singleton_append, leadN_cons, leadN_cons, if_neg hx, if_neg hx]
  | x :: y :: a, b, _, h => by
    have h' : lastIs 47 (y :: a) = false := by unfold lastIs at h ⊢; rwa [List.getLast?_cons_cons] at h
    rw [List.cons_append, leadN_cons, leadN_cons, leadN_mid (y :: a) b (by simp) h']
theorem rootN_jn (a b : List Nat) (hb : headIs 47 b = false) : rootN (jn1 a b) = rootN a := by
  rw [rootN_lead, rootN_lead]
  have key : leadN (jn1 a b) = leadN a := by
    unfold jn1
    by_cases ha : a = []
    · rw [if_pos (.inr ha)]
      subst ha
      exact leadN_app [] b hb
    · rw [if_neg (by rw [hb]; simpa using ha)]
      by_cases hl : lastIs 47 a = true
      · rw [if_pos hl]; exact leadN_app a b hb
      · rw [if_neg hl]; exact leadN_mid a _ ha (by simpa using hl)
  rw [key]
/-! one step -/
theorem joinS_snocH : ∀ (cs : List (List Nat)) (n : List Nat), joinS [47] (cs ++ [n]) = (cs.map (· ++ [47])).flatten ++ n
  | [], n => rfl
  | [c], n => by simp [joinS]
  | c :: d :: cs, n => by
    have := joinS_snocH (d :: cs) n
    show c ++ [47] ++ joinS [47] (d :: cs ++ [n]) = _
    rw [this]; simp
theorem last_join {cs : List (List Nat)} {n : List Nat} (h : n ≠ []) (r : Nat) : (outH r (cs ++ [n])).getLast? = n.getLast? := by
  unfold outH
  rw [joinS_snocH, ← List.append_assoc, List.getLast?_append]
  cases e : n.getLast? with
  | none => exact absurd (List.getLast?_eq_none_iff.mp e) h
  | some x => rfl
theorem cut_app_free (c : Nat) : ∀ (a n : List Nat), c ∉ n → cut c (a ++ n) = cut c a
  | [], n, h => by
    rw [List.nil_append]
    induction n with
    | nil => rfl
    | cons x r ih =>
      rw [List.mem_cons, not_or] at h
      show (if cut c r ≠ 0 then cut c r + 1 else if x = c then 1 else 0) = 0
      rw [ih h.2]
      simp [cut, Ne.symm h.1]
  | x :: a, n, h => by
    show (if cut c (a ++ n) ≠ 0 then cut c (a ++ n) + 1 else if x = c then 1 else 0) = (if cut c a ≠ 0 then cut c a + 1 else if x = c then 1 else 0)
    rw [cut_app_free c a n h]
theorem cut_end (c : Nat) : ∀ a : List Nat, cut c (a ++ [c]) = a.length + 1
  | [] => by simp [cut]
  | x :: a => by
    show (if cut c (a ++ [c]) ≠ 0 then cut c (a ++ [c]) + 1 else if x = c then 1 else 0) = _
    rw [cut_end c a, if_pos (by (clear x c; (first | lia | omega))), List.length_cons]
theorem cut_rep (r : Nat) : cut 47 (List.replicate r 47) = r := by
  cases r with
  | zero => rfl
  | succ k => rw [List.replicate_succ', cut_end, List.length_replicate]
theorem base_snoc {r : Nat} {cs : List (List Nat)} {n : List Nat} (hn : 47 ∉ n) : cut 47 (outH r (cs ++ [n])) = (List.replicate r 47 ++ (cs.map (· ++ [47])).flatten).length := by
  unfold outH
  rw [joinS_snocH, ← List.append_assoc, cut_app_free 47 _ n hn]
  rcases List.eq_nil_or_concat cs with h0 | ⟨cs', c, h0⟩
  · subst h0; simp [cut_rep]
  · rw [List.concat_eq_append] at h0
    subst h0
    have e : List.replicate r 47 ++ ((cs' ++ [c]).map (· ++ [47])).flatten = (List.replicate r 47 ++ (cs'.map (· ++ [47])).flatten ++ c) ++ [47] := by simp [List.append_assoc]
    rw [e, cut_end, List.length_append (bs := [47])]; rfl
theorem rstrip_free {l : List Nat} (h : ¬ lastIs 47 l = true) : rstripS 47 l = l := by
  unfold rstripS
  unfold lastIs at h
  rw [beq_iff_eq] at h
  rcases List.eq_nil_or_concat l with h0 | ⟨l', x, h0⟩
  · subst h0; rfl
  · rw [List.concat_eq_append] at h0
    subst h0
    rw [List.getLast?_concat] at h
    have hx : (x == 47) = false := by simpa using h
    rw [List.reverse_append, List.reverse_singleton, List.singleton_append, List.dropWhile_cons, hx]
    simp
theorem rstrip_one (l : List Nat) : rstripS 47 (l ++ [47]) = rstripS 47 l := by
  unfold rstripS
  rw [List.reverse_append, List.reverse_singleton, List.singleton_append, List.dropWhile_cons]
  rfl
theorem dirS_snoc {r : Nat} {cs : List (List Nat)} {n : List Nat} (hc : ∀ c ∈ cs, c ≠ [] ∧ 47 ∉ c) (hn : 47 ∉ n) : dirS (outH r (cs ++ [n])) = outH r cs := by
  have ht : (outH r (cs ++ [n])).take (cut 47 (outH r (cs ++ [n]))) = List.replicate r 47 ++ (cs.map (· ++ [47])).flatten := by
    rw [base_snoc hn]
    unfold outH
    rw [joinS_snocH, ← List.append_assoc, List.take_left]
  unfold dirS
  rw [ht]
  rcases List.eq_nil_or_concat cs with h0 | ⟨cs', c, h0⟩
  · subst h0
    rw [if_neg]
    · rfl
    · rintro ⟨_, q⟩
      apply q
      simp
  · rw [List.concat_eq_append] at h0
    subst h0
    obtain ⟨c0, c1⟩ := hc c (by simp)
    have e : List.replicate r 47 ++ ((cs' ++ [c]).map (· ++ [47])).flatten = outH r (cs' ++ [c]) ++ [47] := by
      unfold outH; rw [joinS_snocH]; simp [List.append_assoc]
    have hl : ¬ lastIs 47 (outH r (cs' ++ [c])) = true := by
      unfold lastIs
      rw [last_join c0, beq_iff_eq]
      intro e
      exact c1 (List.mem_of_getLast? e)
    rw [e, if_pos, rstrip_one, rstrip_free hl]
    refine ⟨by simp, fun q => ?_⟩
    obtain ⟨x, hx⟩ := List.exists_mem_of_ne_nil c c0
    have hm : x ∈ outH r (cs' ++ [c]) ++ [47] := by
      unfold outH; rw [joinS_snocH]; simp [hx]
    rw [q] at hm
    have := (List.mem_replicate.mp hm).2
    subst this
    exact c1 hx
/-! how many slashes are ahead -/
theorem leadN_split : ∀ l : List Nat, ∃ t, l = List.replicate (leadN l) 47 ++ t ∧ headIs 47 t = false
  | [] => ⟨[], rfl, rfl⟩
  | x :: r => by
    rw [leadN_cons]
    by_cases h : x = 47
    · obtain ⟨t, h1, h2⟩ := leadN_split r
      refine ⟨t, ?_, h2⟩
      rw [if_pos h, List.replicate_succ, List.cons_append, ← h1, h]
    · exact ⟨x :: r, by rw [if_neg h]; rfl, by simpa [headIs] using h⟩
theorem leadN_rep (k : Nat) : leadN (List.replicate k 47) = k := by
  induction k with
  | zero => rfl
  | succ k ih => rw [List.replicate_succ, leadN_cons, if_pos rfl, ih]
theorem leadN_repApp (k : Nat) {t : List Nat} (h : headIs 47 t = false) : leadN (List.replicate k 47 ++ t) = k := by rw [leadN_app _ _ h, leadN_rep]
theorem rstrip_skip {x : Nat} {l : List Nat} (h : rstripS 47 l ≠ []) : rstripS 47 (x :: l) = x :: rstripS 47 l := by
  unfold rstripS at h ⊢
  rw [List.reverse_cons, List.dropWhile_append]
  have h' : (l.reverse.dropWhile (· == 47)).isEmpty = false := by
    cases e : l.reverse.dropWhile (· == 47) with
    | nil => rw [e] at h; exact absurd rfl h
    | cons y r => rfl
  rw [h', if_neg Bool.false_ne_true, List.reverse_append]; rfl
theorem rstrip_cons {x : Nat} (h : x ≠ 47) (l : List Nat) : rstripS 47 (x :: l) = x :: rstripS 47 l := by
  by_cases h2 : rstripS 47 l = []
  · rw [h2]
    unfold rstripS at h2 ⊢
    have h3 : l.reverse.dropWhile (· == 47) = [] := by simpa using h2
    rw [List.reverse_cons, List.dropWhile_append, h3]
    simp [h]
  · exact rstrip_skip h2
theorem rstrip_pre {x : Nat} (h : x ≠ 47) (l : List Nat) : ∀ a : List Nat, rstripS 47 (a ++ x :: l) = a ++ x :: rstripS 47 l
  | [] => rstrip_cons h l
  | y :: a => by
    have ih := rstrip_pre h l a
    rw [List.cons_append, rstrip_skip (by rw [ih]; simp), ih]; rfl
theorem rstrip_len : ∀ l : List Nat, (rstripS 47 l).length ≤ l.length := fun l => by
  unfold rstripS
  rw [List.length_reverse]
  have : (l.reverse.dropWhile (· == 47)).length ≤ l.reverse.length := (List.dropWhile_sublist _).length_le
  simpa using this
theorem cut_rep_app (k : Nat) {t : List Nat} (h : cut 47 t ≠ 0) : cut 47 (List.replicate k 47 ++ t) = k + cut 47 t := by
  induction k with
  | zero => simp
  | succ k ih =>
    rw [List.replicate_succ, List.cons_append]
    show (if cut 47 (List.replicate k 47 ++ t) ≠ 0 then cut 47 (List.replicate k 47 ++ t) + 1 else _) = _
    rw [if_pos (by (first | lia | omega)), ih]; (clear ih h; (first | lia | omega))
theorem cut_zero {t : List Nat} (h : cut 47 t = 0) : 47 ∉ t := by
  rcases cut_spec 47 t with ⟨_, h2⟩ | ⟨k, h2, _⟩
  · intro hm
    obtain ⟨i, hi⟩ := List.mem_iff_getElem?.mp hm
    exact h2 i hi
  · (first | lia | omega)
theorem dirS_spec (l : List Nat) : leadN (dirS l) = leadN l ∧ (dirS l = List.replicate (leadN l) 47 ∨ (dirS l).length < l.length) ∧ (dirS l).length ≤ l.length := by
  obtain ⟨t, h1, h2⟩ := leadN_split l
  generalize leadN l = k at h1 ⊢
  subst h1
  by_cases hc : cut 47 t = 0
  · have e : cut 47 (List.replicate k 47 ++ t) = k := by rw [cut_app_free 47 _ _ (cut_zero hc), cut_rep]
    have ht : (List.replicate k 47 ++ t).take (cut 47 (List.replicate k 47 ++ t)) = List.replicate k 47 := by
      rw [e]; exact List.take_left' (List.length_replicate ..)
    have hd : dirS (List.replicate k 47 ++ t) = List.replicate k 47 := by
      unfold dirS
      rw [ht, if_neg]
      rintro ⟨_, q⟩
      exact q (by rw [List.length_replicate])
    rw [hd]
    exact ⟨leadN_rep k, .inl rfl, by simp⟩
  · have e := cut_rep_app k hc
    have hle := cut_le 47 t
    have ht : (List.replicate k 47 ++ t).take (cut 47 (List.replicate k 47 ++ t)) = List.replicate k 47 ++ t.take (cut 47 t) := by
      rw [e, List.take_append, List.length_replicate, List.take_of_length_le (by rw [List.length_replicate]; (clear hle e hc h2; (first | lia | omega))), Nat.add_sub_cancel_left]
    cases t with
    | nil => exact absurd rfl hc
    | cons x r =>
      have hx : x ≠ 47 := by intro q; subst q; cases h2
      obtain ⟨c, hcc⟩ : ∃ c, cut 47 (x :: r) = c + 1 := ⟨_, (Nat.succ_pred_eq_of_ne_zero hc).symm⟩
      rw [hcc, List.take_succ_cons] at ht
      have hd : dirS (List.replicate k 47 ++ x :: r) = List.replicate k 47 ++ x :: rstripS 47 (r.take c) := by
        unfold dirS
        rw [ht, if_pos, rstrip_pre hx]
        refine ⟨by simp, fun q => ?_⟩
        have hm : x ∈ List.replicate k 47 ++ x :: r.take c := by simp
        rw [q] at hm
        exact hx (List.mem_replicate.mp hm).2
      have hl := rstrip_len (r.take c)
      have hlast : (rstripS 47 (r.take c)).length < r.length := by
        have hcl : c ≤ r.length := by rw [hcc, List.length_cons] at hle; (clear hl hd hcc ht hx e hc h2 x k; (first | lia | omega))
        rcases cut_spec 47 (x :: r) with ⟨q, _⟩ | ⟨j, q1, q2, _⟩
        · (clear hcl hl hd ht hx hle e hc h2 k; (first | lia | omega))
        · have hj : j = c := by (clear q2 hcl hl hd ht hx hle e hc h2 k; (first | lia | omega))
          subst hj
          cases j with
          | zero => simp at q2; exact absurd q2 hx
          | succ j =>
            have q2 : r[j]? = some 47 := by simpa using q2
            have e2 : r.take (j + 1) = r.take j ++ [47] := by rw [List.take_add_one, q2]; rfl
            rw [e2, rstrip_one]
            have := rstrip_len (r.take j)
            have : (r.take j).length ≤ j := List.length_take_le j r
            (first | lia | omega)
      rw [hd]
      refine ⟨leadN_repApp k (by simpa [headIs] using hx), .inr ?_, ?_⟩ <;> simp only [List.length_append, List.length_replicate, List.length_cons] <;> (clear hl hd hcc ht hx hle e hc h2 x; (first | lia | omega))
theorem dirS_rep (k : Nat) : dirS (List.replicate k 47) = List.replicate k 47 := by
  obtain ⟨h1, h2, h3⟩ := dirS_spec (List.replicate k 47)
  rw [leadN_rep] at h1 h2
  rcases h2 with e | e
  · exact e
  · obtain ⟨t, q1, q2⟩ := leadN_split (dirS (List.replicate k 47))
    rw [h1] at q1
    rw [q1] at e
    simp only [List.length_append, List.length_replicate] at e
    (clear q2 q1 h3 h1; (first | lia | omega))
end PL

end
section
open PySem PySem.Calls PyProof.Rows
set_option Elab.async false
set_option linter.unusedVariables false
set_option linter.unusedSimpArgs false
set_option linter.unusedSectionVars false
set_option maxRecDepth 100000
namespace PL
/-! the tree of places below a root -/
noncomputable abbrev Lc := List (List (List Nat))
noncomputable def names? (cs : List (List Nat)) : Prop := ∀ c ∈ cs, nameN c
theorem step_ddr {r : Nat} (hr : 0 < r) {cs : List (List Nat)} (h : names? cs) : stepN r cs dd = cs.dropLast := by
  unfold stepN
  rw [if_neg (by decide), if_neg]
  rintro (q | ⟨q, _⟩ | ⟨q, q2⟩)
  · exact q rfl
  · (clear h; (first | lia | omega))
  · have hm : dd ∈ cs := List.mem_of_getElem? q2
    exact (h dd hm).2.2.1 rfl
theorem names_step {r : Nat} (hr : 0 < r) {cs : List (List Nat)} (h : names? cs) {p : List Nat} (hp : 47 ∉ p) : names? (stepN r cs p) := by
  by_cases h1 : p = [] ∨ p = [46]
  · unfold stepN; rw [if_pos h1]; exact h
  · by_cases h2 : p = dd
    · subst h2; rw [step_ddr hr h]
      exact fun c hc => h c (List.dropLast_subset _ hc)
    · rw [not_or] at h1
      rw [step_name ⟨h1.1, h1.2, h2, hp⟩]
      intro c hc
      rcases List.mem_append.mp hc with hc | hc
      · exact h c hc
      · rw [List.mem_singleton.mp hc]; exact ⟨h1.1, h1.2, h2, hp⟩
end PL

end
section
open PySem PySem.Calls PyProof.Rows
set_option Elab.async false
set_option linter.unusedVariables false
set_option linter.unusedSimpArgs false
set_option linter.unusedSectionVars false
set_option maxRecDepth 100000
namespace PL
noncomputable def isStar : Expr → Bool
  | .Starred .. => true
  | _ => false
/-! several names at once, and a starred argument -/
section
variable {C : Cx} {X : XP} {σ : St} {g : Gd} {n : Nat} {sc : Scope}
theorem TArgs.mono {es : List Expr} {P Q : List V → St → Prop} (h : TArgs C es P X σ) (k : ∀ vs σ', P vs σ' → Q vs σ') : TArgs C es Q X σ := fun pos z₀ => (h pos z₀).mono fun z xs σ' _ ⟨vs, r, q⟩ => ⟨vs, r, k _ _ q⟩
theorem swaps_two {env : Env} {x y : Str} {px py p1 p2 : Pos} {k k2 : Nat} {es : List Expr} (hx : env.kindOf x = some .local) (hy : env.kindOf y = some .local) (hb : (env.blockKind != .function) = false) (hne : x ≠ y)
    (he : es.length = 2) (hst : ∀ e ∈ es, isStar e = false) (h1 : (px.line == px.line) = true) (h2 : (py.line == px.line) = true) (h3 : es.all (foldedForSure 8) = false) (h4 : es.all (constantsAlone 8) = false) :
    swappedStores [.Tuple [.Name x px, .Name y py] k p1] (.Tuple es k2 p2) env = Pure.pure (some [x, y]) := by
  have hxy : (x == y) = false := by simpa using hne
  have hyx : (y == x) = false := by simpa using Ne.symm hne
  unfold swappedStores
  have e1 : (Expr.Name x px).pos = px := rfl
  simp only [List.length_cons, List.length_nil, he, hb, hx, hy, h2, e1, List.head?_cons, Option.map_some, Option.getD_some, List.filterMap_cons, List.filterMap_nil, h1, beq_self_eq_true, Bool.and_self, if_true]
  have ed : [x, y].eraseDups.length = 2 := by simp [List.eraseDups_cons, hyx]
  rw [if_neg (by decide), if_neg, if_neg (by rw [ed]; decide), if_neg (by rw [h3]; decide), if_neg (by rw [h4]; decide)]
  intro q
  rw [List.any_eq_true] at q
  obtain ⟨e, hm, hq⟩ := q
  exact absurd (show isStar e = true from hq) (by rw [hst e hm]; decide)
theorem unpack_stores {names : List Str} {vs : List V} {Q : Fl → St → Prop} (hh : C.A.handled = none) (hlen : names.length = vs.length) {z₀ : Z} {x : Value} (r : Rep z₀ (.tup vs) x) (ev : Value) (stores : List (Value → Sem Unit))
    (h : ∀ z xs, Z.le z₀ z → RepL z vs xs → TT C z (assignInOrder (names.reverse.map fun n => bindName C.env n) xs.reverse) (fun _ _ σ' => Q .next σ') X σ) : TT C z₀ (assignStores C.env x (some names) stores) (PFl Q) X σ := by
  intro zs z s hz hR
  obtain ⟨a, items, k, rfl, e, rl⟩ := rep_tupO (r.mono hz) hR
  unfold assignStores
  dsimp only
  refine wpAny_bind (wpAny_rule ?_)
  have hn : names.length = items.toArray.size := by rw [hlen, List.size_toArray, rl.length]
  rw [hn]
  refine wpAny_bind (wpAny_unpackItems_tuple hh (isTuple_of e) fun h' hx => ?_)
  have R' : R C zs σ z { s with heap := h' } := hR.grow (t := s.toks) fun b o eb => hx b o (Nat.ne_of_lt (Heap.lt_size eb)) eb
  refine wpAny_bind (wpAny_mono (h z items hz rl zs z _ (Z.le_refl _) R') ?_ fun _ _ x => x)
  rintro ⟨⟩ s2 ⟨z2, σ2, l2, R2, q⟩
  exact wpAny_pure ⟨z2, σ2, l2, R2, .next, .next, q⟩
theorem TS.swap2 {x y : Str} {px py p1 p2 p : Pos} {k k2 : Nat} {es : List Expr} {Q : Fl → St → Prop} (hIn : In C g n sc) (hx : sc.names.lookup x = some .local) (hy : sc.names.lookup y = some .local) (hne : x ≠ y)
    (h : TArgs C es (fun vs σ1 => vs.length ≤ 16777216 ∧ ∃ u v, vs = [u, v] ∧ Q .next ⟨setL (setL σ1.loc y v) x u, σ1.H⟩) X σ)
    (he : es.length = 2 := by rfl) (hst : ∀ e ∈ es, isStar e = false := by simp [isStar]) (h2 : (py.line == px.line) = true := by rfl) (h3 : es.all (foldedForSure 8) = false := by decide +kernel) (h4 : es.all (constantsAlone 8) = false := by decide +kernel)
    (hs : swapsWithSole [.Tuple [.Name x px, .Name y py] k p1] (.Tuple es k2 p2) p.line C.env = Pure.pure false := by rfl) :
    TS C (.Assign [.Tuple [.Name x px, .Name y py] k p1] (.Tuple es k2 p2) p) Q X σ := by
  intro z₀
  rw [arm_exec_Assign]
  refine TT.at_ ?_
  rw [hs]
  refine TT.bind (TT.pure fun z1 l1 => ?_)
  rw [if_neg Bool.false_ne_true]
  refine TT.bind (TT.mono (TE.tuple (Q := fun v σ1 => ∃ u w, v = .tup [u, w] ∧ Q .next ⟨setL (setL σ1.loc y w) x u, σ1.H⟩) (h.mono fun vs σ1 ⟨a, u, w, b, c⟩ => ⟨a, u, w, by rw [b], c⟩) z1) ?_)
  rintro z2 val σ1 l2 ⟨v, rv, u, w, rfl, hq⟩
  have hb : (C.env.blockKind != .function) = false := by unfold Env.blockKind; rw [C.hk]; rfl
  rw [swaps_two ((hIn.kind x).trans hx) ((hIn.kind y).trans hy) hb hne he hst (by simp) h2 h3 h4]
  refine TT.bind (TT.pure fun z3 l3 => ?_)
  refine unpack_stores hIn.calm rfl (rv.mono l3) val _ fun z xs lz rl => ?_
  have rlq := RepL.inv rl; clear rl; obtain ⟨_, _, rfl, r1, t⟩ := rlq
  have tq := RepL.inv t; clear t; obtain ⟨_, _, rfl, r2, t⟩ := tq
  cases t.inv0; clear t
  show TT C z (do PySem.holding _ (bindName C.env y _); assignInOrder [fun v => bindName C.env x v] [_]) _ X σ1
  refine TT.bind (TT.holding (TT.store (.loc ((hIn.kind y).trans hy)) r2 fun z5 l5 => ?_))
  show TT C z5 (do PySem.holding _ (bindName C.env x _); assignInOrder [] []) _ X _
  refine TT.bind (TT.holding (TT.store (.loc ((hIn.kind x).trans hx)) (r1.mono l5) fun z6 l6 => ?_))
  exact TT.pure fun _ _ => hq
end
end PL

end
section
open PySem PySem.Calls PyProof.Rows
set_option Elab.async false
set_option linter.unusedVariables false
set_option linter.unusedSimpArgs false
set_option linter.unusedSectionVars false
set_option maxRecDepth 100000
namespace PL
theorem len_two {α : Type} {xs : List α} (h : xs.length = 2) : ∃ x y, xs = [x, y] := by
  match xs, h with
  | [x, y], _ => exact ⟨x, y, rfl⟩
/-! slices: all but the last, turned round -/
theorem sl_kend {α : Type} (l : List α) (k : Nat) : sl l (some (k : Int)) (some (-1)) = l.dropLast.drop k := by
  have h1 : clipAt l.length (k : Int) = min k l.length := clip_nat _ _
  have h2 : clipAt l.length (-1) = l.length - 1 := clip_m1 _
  show (l.drop (clipAt l.length (k : Int))).take (clipAt l.length (-1) - clipAt l.length (k : Int)) = _
  rw [h1, h2, List.dropLast_eq_take, List.drop_take]
  by_cases h : k ≤ l.length
  · rw [Nat.min_eq_left h]
  · rw [Nat.min_eq_right (by (clear h2 h1; (first | lia | omega))), List.drop_of_length_le (Nat.le_refl _), List.drop_of_length_le (l := l) (i := k) (by (clear h2 h1; (first | lia | omega))), List.take_nil, List.take_nil]
section
variable {C : Cx} {X : XP} {σ : St} {Q : V → St → Prop}
/-- an item by a number that is no less than nought; by -1 -/
theorem Item.listN {v : V} {vs : List V} {j : Nat} {u : V} (hl : IsL σ v vs) (hn : vs.length ≤ 16777216) (hu : vs[j]? = some u) (h : Q u σ) : Item C v (.int (j : Int)) Q X σ :=
  Item.list hl hn ⟨if_neg (Int.not_lt.mpr (Int.natCast_nonneg j)), (List.getElem?_eq_some_iff.mp hu).1⟩ hu h
theorem Item.listZ {v : V} {vs : List V} {k : Nat} {u : V} (hl : IsL σ v vs) (hn : vs.length ≤ 16777216) (hk : vs.length = k + 1) (hu : vs[k]? = some u) (h : Q u σ) : Item C v (.int (-1)) Q X σ :=
  Item.list (j := k) hl hn ⟨by rw [if_pos (by decide), hk]; (clear h hu hk hn hl u v vs; (first | lia | omega)), (List.getElem?_eq_some_iff.mp hu).1⟩ hu h
end
end PL

end
section
open PySem PySem.Calls PyProof.Rows
set_option Elab.async false
set_option linter.unusedVariables false
set_option linter.unusedSimpArgs false
set_option linter.unusedSectionVars false
set_option maxRecDepth 100000
namespace PL
/-! list.extend, list.index -/
section
variable {C : Cx} {X : XP} {σ : St} {Q : V → St → Prop}
theorem call_extend {a : Addr} {w : V} {vs ws : List V} {H' : Led} (hu : Upd a (.list vs) (.list (vs ++ ws)) σ.H H') (k2 : IsL σ w ws) (hn : vs.length + ws.length ≤ 16777216) (h : Q .none ⟨σ.loc, H'⟩) : CallV C (.builtin "list.extend") [.ref a, w] Q X σ := by
  refine CallV.toks fun z₀ zs z s xs hz hR r => ?_
  have rq := RepL.inv r; clear r; obtain ⟨_, _, rfl, rx, t⟩ := rq
  have tq := RepL.inv t; clear t; obtain ⟨_, _, rfl, ry, t⟩ := tq
  cases t.inv0; clear t; have rxq := rx.e; clear rx; obtain ⟨_, rfl⟩ := rxq
  obtain ⟨⟨items, n, e, rl⟩, _⟩ := hR.rh.hH _ hu.mem
  obtain ⟨b, items2, n2, rfl, p2, q2⟩ := k2.obj ry (Z.le_refl _) hR
  have h1 := rl.length
  have h2 := q2.length
  have hz : ¬(!items.toArray.isEmpty && Builtin.List.listTooLong (items.toArray.size + items2.toArray.size)) = true := by
    have : Builtin.List.listTooLong (items.toArray.size + items2.toArray.size) = false := by
      unfold Builtin.List.listTooLong
      simp only [List.size_toArray, decide_eq_false_iff_not, sizeLine_eq]
      (clear q2 p2 ry n2 b rl e n hR hz s z₀ h k2 hu H' w; (first | lia | omega))
    rw [this, Bool.and_false]; exact Bool.false_ne_true
  refine call_meets PySem.F.slot_list_extend ⟨_, e, rfl⟩ PySem.F.entry_list_extend (PySem.F.args_list_extend_2 _ _) (AutoSeq1.list_extend_list_list_0 a items.toArray n b items2.toArray n2 hz (by rw [List.size_toArray]; exact size_ok (by (first | lia | omega))) (by rw [List.size_toArray, List.size_toArray]; exact Nat.le_succ_of_le (size_ok (by (first | lia | omega))))) ⟨e, p2, ?_⟩
  obtain ⟨n', e2⟩ : ∃ n', Obj.mapSeq (fun x => x ++ items2.toArray) (lstO items n) = lstO (items ++ items2) n' := ⟨_, by simp only [Obj.mapSeq, lstO, List.append_toArray]; rfl⟩
  refine ⟨z, _, Z.le_refl _, hR.upd hu (t := s.toks) (Heap.SameBut.update ..) ⟨items ++ items2, n', ?_, rl.append q2⟩, _, .none, h⟩
  rw [Heap.get?_update_self _ e (by rw [e2]; rfl), e2]
theorem call_extendT {a : Addr} {vs ws : List V} {H' : Led} (hu : Upd a (.list vs) (.list (vs ++ ws)) σ.H H') (hn : vs.length + ws.length ≤ 16777216) (h : Q .none ⟨σ.loc, H'⟩) : CallV C (.builtin "list.extend") [.ref a, .tup ws] Q X σ := by
  refine CallV.toks fun z₀ zs z s xs hz hR r => ?_
  have rq := RepL.inv r; clear r; obtain ⟨_, _, rfl, rx, t⟩ := rq
  have tq := RepL.inv t; clear t; obtain ⟨_, _, rfl, ry, t⟩ := tq
  cases t.inv0; clear t; have rxq := rx.e; clear rx; obtain ⟨_, rfl⟩ := rxq
  obtain ⟨⟨items, n, e, rl⟩, _⟩ := hR.rh.hH _ hu.mem
  obtain ⟨b, items2, n2, rfl, p2, q2⟩ := rep_tupO ry hR
  have h1 := rl.length
  have h2 := q2.length
  have hz : ¬(!items.toArray.isEmpty && Builtin.List.listTooLong (items.toArray.size + items2.toArray.size)) = true := by
    have : Builtin.List.listTooLong (items.toArray.size + items2.toArray.size) = false := by
      unfold Builtin.List.listTooLong
      simp only [List.size_toArray, decide_eq_false_iff_not, sizeLine_eq]
      (clear q2 p2 ry n2 b rl e n hR hz s z₀ h hu H'; (first | lia | omega))
    rw [this, Bool.and_false]; exact Bool.false_ne_true
  refine call_meets PySem.F.slot_list_extend ⟨_, e, rfl⟩ PySem.F.entry_list_extend (PySem.F.args_list_extend_2 _ _) (AutoSeq1.list_extend_list_tuple_0 a items.toArray n b items2.toArray n2 hz (by rw [List.size_toArray]; exact size_ok (by (first | lia | omega))) (by rw [List.size_toArray, List.size_toArray]; exact Nat.le_succ_of_le (size_ok (by (first | lia | omega))))) ⟨e, p2, ?_⟩
  obtain ⟨n', e2⟩ : ∃ n', Obj.mapSeq (fun x => x ++ items2.toArray) (lstO items n) = lstO (items ++ items2) n' := ⟨_, by simp only [Obj.mapSeq, lstO, List.append_toArray]; rfl⟩
  refine ⟨z, _, Z.le_refl _, hR.upd hu (t := s.toks) (Heap.SameBut.update ..) ⟨items ++ items2, n', ?_, rl.append q2⟩, _, .none, h⟩
  rw [Heap.get?_update_self _ e (by rw [e2]; rfl), e2]
theorem TE.extendM {e : Expr} {args : List Expr} {apos pos : Pos} (h : TE C e (fun ov σ1 => ∃ a vs, ov = .ref a ∧ (a, AO.list vs) ∈ σ1.H ∧ TArgs C args (fun us σ2 => ∃ w vs' ws H', us = [w] ∧ (IsL σ2 w ws ∨ w = .tup ws) ∧ Upd a (.list vs') (.list (vs' ++ ws)) σ2.H H' ∧ vs'.length + ws.length ≤ 16777216 ∧ Q .none ⟨σ2.loc, H'⟩) X σ1) X σ)
    (hp : (backTo pos (starEach args C.env)).any (·.1) = false := by rfl) (hb : attributeBase e "extend" C.env (eval e C.env) = eval e C.env := by rfl)
    (hf : methodCallForm (args.length + 0) (backTo pos (starEach args C.env)) [] = true := by rfl) (hl : (apos.endLine == pos.line) = true := by rfl) : TE C (.Call (.Attribute e "extend" apos) args [] pos) Q X σ := by
  refine TE.meth (id := "list.extend") (h.mono ?_) hp hb hf hl
  rintro ov σ1 ⟨a, vs, rfl, hm, h⟩
  refine ⟨Meth.list (.mt hm) PySem.F.slot_list_extend PySem.F.type_list_extend, fun p z₀ => (h p z₀).mono ?_⟩
  rintro z xs σ2 _ ⟨us, r, w, vs', ws, H', rfl, k | rfl, hu, hn, q⟩
  · exact ⟨_, r, call_extend hu k hn q⟩
  · exact ⟨_, r, call_extendT hu hn q⟩
theorem TE.indexM {e : Expr} {args : List Expr} {apos pos : Pos} (h : TE C e (fun ov σ1 => ∃ vs, IsL σ1 ov vs ∧ TArgs C args (fun us σ2 => ∃ w, us = [w] ∧ CallV C (.builtin "list.index") [ov, w] Q X σ2) X σ1) X σ)
    (hp : (backTo pos (starEach args C.env)).any (·.1) = false := by rfl) (hb : attributeBase e "index" C.env (eval e C.env) = eval e C.env := by rfl)
    (hf : methodCallForm (args.length + 0) (backTo pos (starEach args C.env)) [] = true := by rfl) (hl : (apos.endLine == pos.line) = true := by rfl) : TE C (.Call (.Attribute e "index" apos) args [] pos) Q X σ := by
  refine TE.meth (id := "list.index") (h.mono ?_) hp hb hf hl
  rintro ov σ1 ⟨vs, k, h⟩
  refine ⟨Meth.list k PySem.F.slot_list_index PySem.F.type_list_index, fun p z₀ => (h p z₀).mono ?_⟩
  rintro z xs σ2 _ ⟨us, r, w, rfl, q⟩
  exact ⟨_, r, q⟩
end
end PL

end
section
open PySem PySem.Calls PyProof.Rows
set_option Elab.async false
set_option linter.unusedVariables false
set_option linter.unusedSimpArgs false
set_option linter.unusedSectionVars false
set_option maxRecDepth 100000
namespace PL
/-! what a rooted text says of a place -/
theorem stepN_pos {r : Nat} (h : 0 < r) : stepN r = stepN 1 := by
  funext acc c
  unfold stepN
  have e : (r = 0 ∧ acc = []) ↔ (1 = 0 ∧ acc = []) := by
    constructor <;> (rintro ⟨a, _⟩; (clear c; (first | lia | omega)))
  by_cases h1 : c = [] ∨ c = [46]
  · rw [if_pos h1, if_pos h1]
  · rw [if_neg h1, if_neg h1]
    simp only [e]
theorem normC_pos {r : Nat} (h : 0 < r) (ps : List (List Nat)) : normC r ps = normC 1 ps := by unfold normC; rw [stepN_pos h]
theorem outS_pos {r : Nat} (h : 0 < r) (cs : List (List Nat)) : outS r cs = outH r cs := by
  rw [outS_H, if_neg]
  unfold outH
  obtain ⟨k, rfl⟩ : ∃ k, r = k + 1 := ⟨r - 1, by (clear cs; (first | lia | omega))⟩
  rw [List.replicate_succ]; simp
/-- the names of the place -/
noncomputable def csT (t : List Nat) : List (List Nat) := normC 1 (splitS 47 t)
theorem norm_rooted {t : List Nat} (h : 0 < rootN t) : normS t = outH (rootN t) (csT t) := by
  rw [normS_eq, outS_pos h, normC_pos h]; rfl
theorem names_ok {cs : List (List Nat)} (h : names? cs) : ∀ c ∈ cs, c ≠ [] ∧ 47 ∉ c := fun c hc => ⟨(h c hc).1, (h c hc).2.2.2⟩
theorem names_take {cs : List (List Nat)} (h : names? cs) (k : Nat) : names? (cs.take k) := fun c hc => h c (List.mem_of_mem_take hc)
theorem outH_bound (r : Nat) (cs : List (List Nat)) : (outH r cs).length ≤ r + sumL cs + cs.length := by
  unfold outH
  rw [List.length_append, List.length_replicate, joinS_length]
  have : sumL cs = (cs.map List.length).sum := rfl
  simp only [List.length_singleton]
  (first | lia | omega)
/-! one step up -/
theorem take_snoc {cs : List (List Nat)} {k : Nat} (h : k < cs.length) : cs.take (k + 1) = cs.take k ++ [cs[k]] := by
  rw [List.take_add_one, List.getElem?_eq_getElem h]; rfl
theorem dirS_take {r : Nat} {cs : List (List Nat)} (h : names? cs) {k : Nat} (hk : k < cs.length) : dirS (outH r (cs.take (k + 1))) = outH r (cs.take k) := by
  rw [take_snoc hk]
  exact dirS_snoc (names_ok (names_take h k)) (names_ok h _ (List.getElem_mem hk)).2
theorem outH_grow {r : Nat} {cs : List (List Nat)} (h : names? cs) {k : Nat} (hk : k < cs.length) : (outH r (cs.take k)).length < (outH r (cs.take (k + 1))).length := by
  have hc := (names_ok h _ (List.getElem_mem hk)).1
  rw [take_snoc hk]
  unfold outH
  rw [List.length_append, List.length_append, joinS_length, joinS_length]
  have : 0 < cs[k].length := List.length_pos_iff.mpr hc
  simp only [List.map_append, List.sum_append, List.length_append, List.map_cons, List.map_nil, List.sum_cons, List.sum_nil, List.length_cons, List.length_nil]
  (clear hc h; (first | lia | omega))
theorem outH_root (r : Nat) : outH r [] = List.replicate r 47 := by unfold outH; rw [show joinS [47] [] = [] from rfl, List.append_nil]
theorem dirS_top (r : Nat) : dirS (outH r []) = outH r [] := by rw [outH_root, dirS_rep]
/-! two places -/
theorem splitS_rep_join (r : Nat) {cs : List (List Nat)} (h : names? cs) : compsS (outH r cs) = cs := by
  unfold compsS outH
  rw [splitS_rep]
  rw [List.filter_append]
  have e1 : (List.replicate r ([] : List Nat)).filter nm? = [] := by
    rw [List.filter_eq_nil_iff]
    intro c hc
    rw [(List.mem_replicate.mp hc).2]; decide
  rw [e1, List.nil_append]
  cases cs with
  | nil => rfl
  | cons c cs' =>
    rw [splitS_join 47 (c :: cs') (by simp) fun p hp => (names_ok h p hp).2]
    rw [List.filter_eq_self]
    intro p hp
    have := h p hp
    unfold nm?
    simp [this.1, this.2.1]
theorem joinS_inj {a b : List (List Nat)} (ha : ∀ c ∈ a, c ≠ [] ∧ 47 ∉ c) (hb : ∀ c ∈ b, c ≠ [] ∧ 47 ∉ c) (h : joinS [47] a = joinS [47] b) : a = b := by
  have ne : ∀ {x : List (List Nat)}, (∀ c ∈ x, c ≠ [] ∧ 47 ∉ c) → joinS [47] x = [] → x = [] := fun {x} hx e => by
    match x with
    | [] => rfl
    | [p] => exact absurd e (hx p (by simp)).1
    | p :: q :: r =>
      have : joinS [47] (p :: q :: r) = p ++ [47] ++ joinS [47] (q :: r) := rfl
      rw [this] at e; simp at e
  cases a with
  | nil => exact (ne hb h.symm).symm
  | cons x a' =>
    cases b with
    | nil => exact ne ha h
    | cons y b' =>
      have h1 := splitS_join 47 (x :: a') (by simp) fun p hp => (ha p hp).2
      have h2 := splitS_join 47 (y :: b') (by simp) fun p hp => (hb p hp).2
      rw [← h1, ← h2, h]
theorem outH_inj {r : Nat} {a b : List (List Nat)} (ha : names? a) (hb : names? b) (h : outH r a = outH r b) : a = b :=
  joinS_inj (names_ok ha) (names_ok hb) (List.append_cancel_left h)
theorem headIs_outP {r : Nat} (hr : 0 < r) (cs : List (List Nat)) : headIs 47 (outH r cs) = true := by
  unfold outH
  obtain ⟨k, rfl⟩ : ∃ k, r = k + 1 := ⟨r - 1, by (clear cs; (first | lia | omega))⟩
  rw [List.replicate_succ]; rfl
theorem pfx_prefix : ∀ a b : List (List Nat), pfx a b = a ↔ a <+: b
  | [], b => by simp [show pfx [] b = [] from by cases b <;> rfl]
  | x :: a, [] => by simp [pfx]
  | x :: a, y :: b => by
    unfold pfx
    by_cases h : x = y
    · rw [if_pos h, h, List.cons_prefix_cons]
      have := pfx_prefix a b
      simp [this]
    · rw [if_neg h, List.cons_prefix_cons]
      simp [h]
theorem cp_one {r : Nat} (hr : 0 < r) {a : List (List Nat)} (ha : names? a) : cpS [outH r a] = [47] ++ joinS [47] a := by
  unfold cpS
  rw [List.headD_cons, headIs_outP hr, if_pos rfl, List.map_cons, List.map_nil, cpL_one, splitS_rep_join r ha]
theorem cp_two {r : Nat} (hr : 0 < r) {a b : List (List Nat)} (ha : names? a) (hb : names? b) : cpS [outH r a, outH r b] = [47] ++ joinS [47] (pfx a b) := by
  unfold cpS
  rw [List.headD_cons, headIs_outP hr, if_pos rfl, List.map_cons, List.map_cons, List.map_nil, cpL_two, splitS_rep_join r ha, splitS_rep_join r hb]
/-! up by two dots -/
/-! a beginning of the text -/
/-! the names on a line -/
theorem outH_chars {r : Nat} {cs : List (List Nat)} (h : ∀ p ∈ cs, ∀ c ∈ p, c < 256) : ∀ c ∈ outH r cs, c < 256 := fun c hc => by
  unfold outH at hc
  rcases List.mem_append.mp hc with q | q
  · rw [(List.mem_replicate.mp q).2]; decide
  · rcases joinS_mem q with q | ⟨p, hp, q⟩
    · rw [List.mem_singleton.mp q]; decide
    · exact h p hp c q
end PL

end
section
open PySem PySem.Calls PyProof.Rows
set_option Elab.async false
set_option linter.unusedVariables false
set_option linter.unusedSimpArgs false
set_option linter.unusedSectionVars false
set_option maxRecDepth 100000
namespace PL
/-! one name takes the one item of a set of truth values -/
section
variable {C : Cx} {X : XP} {σ : St}
theorem TS.unpack1 {x : Str} {p p1 p2 : Pos} {k : Nat} {comp : Expr} {Q : Fl → St → Prop} (hh : C.A.handled = none) (kx : Stores C x)
    (h : TE C comp (fun v σ1 => ∃ a f t b ep, v = .ref a ∧ (a, AO.raw (setO (ledOf C) f t ep)) ∈ σ1.H ∧ f = !b ∧ t = b ∧ Q .next ⟨setL σ1.loc x (.bool b), σ1.H⟩) X0 σ)
    (hw : swapsWithSole [.Tuple [.Name x p] k p1] comp p2.line C.env = Pure.pure false) (hw2 : swappedStores [.Tuple [.Name x p] k p1] comp C.env = Pure.pure none) :
    TS C (.Assign [.Tuple [.Name x p] k p1] comp p2) Q X0 σ := by
  intro z₀ zs z s hz hR
  refine wpAny_Assign_stores ?_ hw hw2
  refine wpAny_mono (h z₀ zs z s hz hR) ?_ fun _ _ x => x.absurd
  rintro v s1 ⟨z1, σ1, l1, R1, u, ru, a, f, t, b, ep, rfl, hm, hf, ht, hQ⟩
  have ruq := ru.e; clear ru; obtain ⟨_, rfl⟩ := ruq
  have ha : s1.heap.get? a = some (setO (ledOf C) f t ep) := (R1.rh.hH _ hm).1
  show wpAny _ _ (PySem.assign (.Tuple [.Name x p] k p1) C.env (.ref a)) _ _ s1
  rw [arm_assign_Tuple]
  refine wpAny_bind (wpAny_standAt ?_)
  unfold PySem.unpack
  refine wpAny_bind (wpAny_holding ?_)
  refine unpackItems_one hh ha hf ht fun h' hx => ?_
  have R2 : R C zs σ1 z1 { s1 with heap := h' } := R1.grow (t := s1.toks) fun b o e => hx b o (Nat.ne_of_lt (Heap.lt_size e)) e
  have T : TIn C [.Name x p] [.bool b] (fun σ' => Q .next σ') X0 σ1 := TIn.cons (TAs.name kx (TIn.nil hQ))
  refine wpAny_mono (T z1 [.bool b] (.cons (.bool b) .nil) zs z1 _ (Z.le_refl _) R2) ?_ fun _ _ x => x.absurd
  rintro ⟨⟩ s3 ⟨z3, σ3, l3, R3, q⟩
  exact ⟨z3, σ3, Z.le_trans l1 l3, R3, .next, .next, q⟩
end
end PL

end
section
open PySem PySem.Calls PyProof.Rows PySem.SeqAt
set_option Elab.async false
set_option linter.unusedVariables false
set_option linter.unusedSimpArgs false
set_option linter.unusedSectionVars false
set_option maxRecDepth 100000
namespace PL
/-! a text among texts -/
theorem sl_end {α : Type} (l : List α) : sl l none (some (-1)) = l.dropLast := (sl_kend l 0).trans (List.drop_zero ..)
/-- the answer for an item of a list of texts -/
noncomputable def isT (o : Bool) (m : List Nat) : Value → Bool
  | .str s _ => s.cps.toList == m
  | .bytes b _ => b.toList == m.map UInt8.ofNat
  | _ => false
theorem isT_at {z : Z} {o : Bool} {m : List Nat} {x : Value} (rx : Rep z (.txt o m) x) {p : List Nat} {y : Value} (r : Rep z (.txt o p) y) : isT o m y = (p == m) := by
  have rq := r.txt_; clear r; rcases rq with ⟨rfl, t, rfl⟩ | ⟨rfl, t, rfl, h⟩
  · rfl
  · cases rx with | bytes _ u k => show (((p.map UInt8.ofNat).toArray).toList == _) = _; rw [List.toList_toArray]; exact beq_ofNat h k
theorem txtsAny {z : Z} {o : Bool} {m : List Nat} {x : Value} (rx : Rep z (.txt o m) x) {ps : List (List Nat)} : ∀ {xs : List Value}, RepL z (ps.map (.txt o)) xs → (∀ y ∈ xs, ∃ p, Rep z (.txt o p) y) ∧ xs.any (isT o m) = decide (m ∈ ps) := by
  induction ps with
  | nil => intro xs r; cases r.inv0; exact ⟨fun y h => (nomatch h), rfl⟩
  | cons p ps ih =>
    intro xs r
    have rq := RepL.inv r; clear r; obtain ⟨_, _, rfl, q, h⟩ := rq
    obtain ⟨h1, h2⟩ := ih h
    refine ⟨fun y hy => ?_, ?_⟩
    · rcases List.mem_cons.mp hy with rfl | hy
      · exact ⟨_, q⟩
      · exact h1 y hy
    · rw [List.any_cons, h2, isT_at rx q, Bool.eq_iff_iff, Bool.or_eq_true, decide_eq_true_eq, decide_eq_true_eq, List.mem_cons, beq_iff_eq, eq_comm]
section
variable {C : Cx} {X : XP} {σ : St} {Q : V → St → Prop}
theorem isT_eq {z : Z} {A : Around} {s : Shared} {o : Bool} {m : List Nat} {x y : Value} (rx : Rep z (.txt o m) x) (h : ∃ p, Rep z (.txt o p) y) : EqAt A s y x (isT o m y) := by
  obtain ⟨p, r⟩ := h; rw [isT_at rx r]; exact EqAt.txt r rx
theorem Cmp.inT {o : Bool} {v : V} {ps : List (List Nat)} {m : List Nat} (k : IsL σ v (ps.map (.txt o))) (h : Q (.bool (decide (m ∈ ps))) σ) : Cmp C .In (.txt o m) v Q X σ := by
  intro z₀ x y rx ry zs z s hz hR
  obtain ⟨a, items, n, rfl, pa, q⟩ := k.obj ry hz hR
  have rx := rx.mono hz
  obtain ⟨h1, h2⟩ := txtsAny rx q
  exact in_listAt (isT o m) (items := items.toArray) ⟨_, pa, rfl, n, rfl⟩ (fun y hy => isT_eq rx (h1 y (List.mem_toArray.mp hy))) (PVal.same hR (.bool _) (by rw [List.any_toArray, h2]; exact h))
theorem Cmp.notInT {o : Bool} {v : V} {ps : List (List Nat)} {m : List Nat} (k : IsL σ v (ps.map (.txt o))) (h : Q (.bool (!decide (m ∈ ps))) σ) : Cmp C .NotIn (.txt o m) v Q X σ := by
  intro z₀ x y rx ry zs z s hz hR
  obtain ⟨a, items, n, rfl, pa, q⟩ := k.obj ry hz hR
  have rx := rx.mono hz
  obtain ⟨h1, h2⟩ := txtsAny rx q
  exact notIn_listAt (isT o m) (items := items.toArray) ⟨_, pa, rfl, n, rfl⟩ (fun y hy => isT_eq rx (h1 y (List.mem_toArray.mp hy))) (PVal.same hR (.bool _) (by rw [List.any_toArray, h2]; exact h))
end
end PL

end
section
open PySem PySem.Calls PyProof.Rows PySem.SeqAt
set_option Elab.async false
set_option linter.unusedVariables false
set_option linter.unusedSimpArgs false
set_option linter.unusedSectionVars false
set_option maxRecDepth 100000
namespace PL
section
variable {C : Cx} {X : XP} {σ : St} {Q : V → St → Prop}
end
/-! a live list within a live list -/
section
variable {C : Cx} {X : XP} {σ : St}
end
/-! the list of some octets -/
section
variable {prog : Program} {w : World} {A : Around} {E : Value → Shared → Prop} {s : Shared}
end
section
variable {C : Cx} {X : XP} {σ : St} {Q : V → St → Prop}
end
end PL

end
section
open PySem PySem.Calls PyProof.Rows
set_option Elab.async false
set_option linter.unusedVariables false
set_option linter.unusedSimpArgs false
set_option linter.unusedSectionVars false
set_option maxRecDepth 100000
namespace PL
/-! rows of pieces: what the path functions do to them -/
theorem joinS_cons (c : Nat) (p : List Nat) {ps : List (List Nat)} (h : ps ≠ []) : joinS [c] (p :: ps) = p ++ c :: joinS [c] ps := by
  cases ps with
  | nil => exact absurd rfl h
  | cons q r => show p ++ [c] ++ joinS [c] (q :: r) = _; simp
theorem joinS_splitS (c : Nat) : ∀ l : List Nat, joinS [c] (splitS c l) = l
  | [] => rfl
  | x :: l => by
    have ih := joinS_splitS c l
    rw [splitS_consE]
    by_cases h : x = c
    · rw [if_pos h, joinS_cons c _ (splitS_ne c l), ih, h]; rfl
    · rw [if_neg h]
      cases e : splitS c l with
      | nil => exact absurd e (splitS_ne c l)
      | cons p ps =>
        rw [e] at ih
        unfold consP
        cases ps with
        | nil => show x :: p = _; rw [← ih]; rfl
        | cons q r => rw [joinS_cons c _ (by simp)] at ih ⊢; rw [← ih]; rfl
/-! the slashes at the front -/
theorem rootN_le_lead (l : List Nat) : rootN l ≤ leadN l := by
  rw [rootN_lead]; split
  · (first | lia | omega)
  · split <;> (first | lia | omega)
/-! join -/
/-! head -/
end PL

end
section
open PySem PySem.Calls PyProof.Rows
set_option Elab.async false
set_option linter.unusedVariables false
set_option linter.unusedSimpArgs false
set_option linter.unusedSectionVars false
set_option maxRecDepth 100000
namespace PL
/-! how far below the start, and the names -/
noncomputable def stepH (a : Nat × List (List Nat)) (p : List Nat) : Nat × List (List Nat) :=
  if p = dd then (if a.2 = [] then (a.1 + 1, []) else (a.1, a.2.dropLast)) else if p ≠ [] ∧ p ≠ [46] then (a.1, a.2 ++ [p]) else a
noncomputable def foldH (ps : List (List Nat)) : Nat × List (List Nat) := ps.foldl stepH (0, [])
theorem stepH_names {a : Nat × List (List Nat)} {p : List Nat} (ha : names? a.2) (hp : 47 ∉ p) : names? (stepH a p).2 := by
  unfold stepH
  split
  · split
    · intro c hc; cases hc
    · exact fun c hc => ha c (List.dropLast_subset _ hc)
  · split
    · rename_i h1 h2
      intro c hc
      rcases List.mem_append.mp hc with hc | hc
      · exact ha c hc
      · rw [List.mem_singleton.mp hc]; exact ⟨h2.1, h2.2, h1, hp⟩
    · exact ha
theorem foldH_names : ∀ (ps : List (List Nat)) (a : Nat × List (List Nat)), names? a.2 → (∀ p ∈ ps, 47 ∉ p) → names? (ps.foldl stepH a).2
  | [], a, h, _ => h
  | p :: ps, a, h, k => foldH_names ps _ (stepH_names h (k p (by simp))) fun q hq => k q (List.mem_cons_of_mem _ hq)
theorem step_H0 {a : Nat × List (List Nat)} {p : List Nat} (ha : names? a.2) : stepN 0 (List.replicate a.1 dd ++ a.2) p = List.replicate (stepH a p).1 dd ++ (stepH a p).2 := by
  obtain ⟨d, cs⟩ := a
  unfold stepH
  by_cases h1 : p = dd
  · subst h1
    rw [if_pos rfl]
    rcases List.eq_nil_or_concat cs with q | ⟨cs', c, q⟩
    · subst q
      rw [if_pos rfl]
      show stepN 0 (List.replicate d dd ++ []) dd = List.replicate (d + 1) dd ++ []
      rw [List.append_nil, List.append_nil, step_dd0]
    · rw [List.concat_eq_append] at q
      subst q
      rw [if_neg (by simp)]
      show stepN 0 (List.replicate d dd ++ (cs' ++ [c])) dd = List.replicate d dd ++ (cs' ++ [c]).dropLast
      rw [← List.append_assoc, step_up (ha c (by simp)), List.dropLast_concat]
  · rw [if_neg h1]
    by_cases h2 : p ≠ [] ∧ p ≠ [46]
    · rw [if_pos h2]
      unfold stepN
      rw [if_neg (fun q => q.elim h2.1 h2.2), if_pos (.inl h1), List.append_assoc]
    · rw [if_neg h2]
      unfold stepN
      rw [if_pos]
      by_cases q : p = []
      · exact .inl q
      · exact .inr (Decidable.byContradiction fun x => h2 ⟨q, x⟩)
theorem step_Hr {r : Nat} (hr : 0 < r) {a : Nat × List (List Nat)} {p : List Nat} (ha : names? a.2) : stepN r a.2 p = (stepH a p).2 := by
  obtain ⟨d, cs⟩ := a
  unfold stepH
  by_cases h1 : p = dd
  · subst h1
    rw [if_pos rfl, step_ddr hr ha]
    rcases List.eq_nil_or_concat cs with q | ⟨cs', c, q⟩
    · subst q; rfl
    · rw [List.concat_eq_append] at q
      subst q
      rw [if_neg (by simp)]
  · rw [if_neg h1]
    by_cases h2 : p ≠ [] ∧ p ≠ [46]
    · rw [if_pos h2]
      unfold stepN
      rw [if_neg (fun q => q.elim h2.1 h2.2), if_pos (.inl h1)]
    · rw [if_neg h2]
      unfold stepN
      rw [if_pos]
      by_cases q : p = []
      · exact .inl q
      · exact .inr (Decidable.byContradiction fun x => h2 ⟨q, x⟩)
theorem fold_H0 : ∀ (ps : List (List Nat)) (a : Nat × List (List Nat)), names? a.2 → (∀ p ∈ ps, 47 ∉ p) → ps.foldl (stepN 0) (List.replicate a.1 dd ++ a.2) = List.replicate (ps.foldl stepH a).1 dd ++ (ps.foldl stepH a).2
  | [], a, _, _ => rfl
  | p :: ps, a, h, k => by
    rw [List.foldl_cons, List.foldl_cons, step_H0 h]
    exact fold_H0 ps _ (stepH_names h (k p (by simp))) fun q hq => k q (List.mem_cons_of_mem _ hq)
theorem fold_Hr {r : Nat} (hr : 0 < r) : ∀ (ps : List (List Nat)) (a : Nat × List (List Nat)), names? a.2 → (∀ p ∈ ps, 47 ∉ p) → ps.foldl (stepN r) a.2 = (ps.foldl stepH a).2
  | [], a, _, _ => rfl
  | p :: ps, a, h, k => by
    rw [List.foldl_cons, List.foldl_cons, step_Hr hr h]
    exact fold_Hr hr ps _ (stepH_names h (k p (by simp))) fun q hq => k q (List.mem_cons_of_mem _ hq)
noncomputable def orL (a b : List (List Nat)) : List (List Nat) := if a = [] then b else a
theorem split_join0 {cs : List (List Nat)} (h : ∀ c ∈ cs, 47 ∉ c) : splitS 47 (joinS [47] cs) = orL cs [[]] := by
  unfold orL
  by_cases q : cs = []
  · subst q; rfl
  · rw [if_neg q, splitS_join 47 cs q h]
theorem names_free {cs : List (List Nat)} (h : names? cs) : ∀ c ∈ cs, 47 ∉ c := fun c hc => (h c hc).2.2.2
theorem split_norm (l : List Nat) : splitS 47 (normS l) = if leadN l = 0 then orL (List.replicate (foldH (splitS 47 l)).1 dd ++ (foldH (splitS 47 l)).2) [[46]] else List.replicate (if leadN l = 2 then 2 else 1) [] ++ orL (foldH (splitS 47 l)).2 [[]] := by
  have hfree : ∀ p ∈ splitS 47 l, 47 ∉ p := fun p hp => splitS_free 47 hp
  have hn : names? (foldH (splitS 47 l)).2 := foldH_names _ (0, []) (fun c hc => by cases hc) hfree
  rw [normS_eq]
  by_cases h : leadN l = 0
  · rw [if_pos h]
    have hr : rootN l = 0 := by have := rootN_le_lead l; (clear hn hfree; (first | lia | omega))
    have e : normC 0 (splitS 47 l) = List.replicate (foldH (splitS 47 l)).1 dd ++ (foldH (splitS 47 l)).2 := fold_H0 (splitS 47 l) (0, []) (fun c hc => by cases hc) hfree
    rw [hr, e]
    generalize hx : List.replicate (foldH (splitS 47 l)).1 dd ++ (foldH (splitS 47 l)).2 = x
    have hx2 : ∀ c ∈ x, c ≠ [] ∧ 47 ∉ c := fun c hc => by
      rw [← hx] at hc
      rcases List.mem_append.mp hc with hc | hc
      · rw [(List.mem_replicate.mp hc).2]; decide
      · exact names_ok hn c hc
    unfold outS orL
    rw [List.replicate_zero, List.nil_append]
    by_cases q : x = []
    · subst q; rfl
    · have hj : joinS [47] x ≠ [] := by
        intro hj
        have := splitS_join 47 x q fun c hc => (hx2 c hc).2
        rw [hj] at this
        exact (hx2 [] (by rw [← this]; exact List.mem_singleton.mpr rfl)).1 rfl
      rw [if_neg q, if_neg hj, splitS_join 47 x q fun c hc => (hx2 c hc).2]
  · rw [if_neg h]
    have hr : rootN l = if leadN l = 2 then 2 else 1 := by
      rw [rootN_lead]
      by_cases q : leadN l = 2
      · rw [if_pos q, if_pos q]
      · rw [if_neg q, if_neg q, if_pos (Nat.pos_of_ne_zero h)]
    have hr0 : 0 < rootN l := by rw [hr]; split <;> decide
    have e : normC (rootN l) (splitS 47 l) = (foldH (splitS 47 l)).2 := fold_Hr hr0 (splitS 47 l) (0, []) (fun c hc => by cases hc) hfree
    rw [e, ← hr]
    unfold outS
    rw [if_neg, splitS_rep, split_join0 (names_free hn)]
    rw [List.append_eq_nil_iff]
    rintro ⟨q, _⟩
    rw [List.replicate_eq_nil_iff] at q; (clear e h hn hfree hr; (first | lia | omega))
/-! what two begin with -/
end PL

end
section
open PySem PySem.Calls PyProof.Rows
set_option Elab.async false
set_option linter.unusedVariables false
set_option linter.unusedSimpArgs false
set_option linter.unusedSectionVars false
set_option maxRecDepth 100000
namespace PL
/-! the ending of a name -/
end PL

end
section
open PySem PySem.Calls PyProof.Rows
set_option Elab.async false
set_option linter.unusedVariables false
set_option linter.unusedSimpArgs false
set_option linter.unusedSectionVars false
set_option maxRecDepth 100000
namespace PL
section
variable {C : Cx} {X : XP} {σ : St} {Q : V → St → Prop}
end
/-! lengths -/
theorem split_len (l : List Nat) : sumL (splitS 47 l) + (splitS 47 l).length = l.length + 1 := by
  have h1 := joinS_length [47] (splitS 47 l)
  rw [joinS_splitS] at h1
  have h2 := List.length_pos_iff.mpr (splitS_ne 47 l)
  simp only [List.length_singleton] at h1
  unfold sumL
  (first | lia | omega)
theorem foldH_weight : ∀ (ps : List (List Nat)) (a : Nat × List (List Nat)), 3 * (ps.foldl stepH a).1 + sumL (ps.foldl stepH a).2 + (ps.foldl stepH a).2.length ≤ 3 * a.1 + sumL a.2 + a.2.length + sumL ps + ps.length
  | [], a => by simp [sumL]
  | p :: ps, a => by
    rw [List.foldl_cons, List.length_cons]
    have h1 := foldH_weight ps (stepH a p)
    have h3 : sumL (p :: ps) = p.length + sumL ps := by simp [sumL]
    have h2 : 3 * (stepH a p).1 + sumL (stepH a p).2 + (stepH a p).2.length ≤ 3 * a.1 + sumL a.2 + a.2.length + p.length + 1 := by
      unfold stepH
      by_cases q : p = dd
      · rw [if_pos q, q]
        by_cases q2 : a.2 = []
        · rw [if_pos q2, q2]; simp [sumL]; (clear q2 q h3 h1 ps p; (first | lia | omega))
        · rw [if_neg q2]
          have := sumL_take a.2 (a.2.length - 1)
          rw [← List.dropLast_eq_take] at this
          rw [List.length_dropLast]; simp only [List.length_cons, List.length_nil]; (clear q2 q h3 h1 ps p; (first | lia | omega))
      · rw [if_neg q]
        by_cases q2 : p ≠ [] ∧ p ≠ [46]
        · rw [if_pos q2]
          have : sumL (a.2 ++ [p]) = sumL a.2 + p.length := by rw [sumL_append]; simp [sumL]
          rw [this, List.length_append, List.length_singleton]; (clear this q2 q h3 h1 ps; (first | lia | omega))
        · rw [if_neg q2]; (clear q2 q h3 h1 ps; (first | lia | omega))
    (first | lia | omega)
theorem normS_len (l : List Nat) : (normS l).length ≤ l.length + 3 := by
  have h1 := split_len (normS l)
  have h2 := split_len l
  have h3 := foldH_weight (splitS 47 l) (0, [])
  have h3 : 3 * (foldH (splitS 47 l)).1 + sumL (foldH (splitS 47 l)).2 + (foldH (splitS 47 l)).2.length ≤ sumL (splitS 47 l) + (splitS 47 l).length := by simpa [foldH, sumL] using h3
  rw [split_norm] at h1
  generalize foldH (splitS 47 l) = st at h1 h3
  obtain ⟨d, cs⟩ := st
  dsimp only at h1 h3
  have e1 : sumL (List.replicate d dd) = 2 * d := by unfold sumL; rw [List.map_replicate, List.sum_replicate_nat]; show d * 2 = _; (first | lia | omega)
  unfold orL at h1
  by_cases q : leadN l = 0
  · rw [if_pos q] at h1
    by_cases q2 : List.replicate d dd ++ cs = []
    · rw [if_pos q2] at h1
      simp [sumL] at h1; (first | lia | omega)
    · rw [if_neg q2, sumL_append, e1, List.length_append, List.length_replicate] at h1; (clear q2 q e1; (first | lia | omega))
  · rw [if_neg q] at h1
    obtain ⟨r, hr, hr2⟩ : ∃ r : Nat, r = (if leadN l = 2 then 2 else 1) ∧ r ≤ 2 := ⟨_, rfl, by split <;> decide⟩
    rw [← hr] at h1
    have e2 : sumL (List.replicate r ([] : List Nat)) = 0 := by unfold sumL; rw [List.map_replicate, List.sum_replicate_nat]; rfl
    rw [sumL_append, e2, List.length_append, List.length_replicate] at h1
    by_cases q2 : cs = []
    · rw [if_pos q2] at h1; simp [sumL] at h1; (first | lia | omega)
    · rw [if_neg q2] at h1; (clear q2 e2 q e1 hr; (first | lia | omega))
end PL

end
section
open PySem PySem.Calls PyProof.Rows PySem.SeqAt
set_option Elab.async false
set_option linter.unusedVariables false
set_option maxHeartbeats 4000000
namespace PL
section
variable {C : Cx} {X : XP} {σ : St} {Q : V → St → Prop}
/-- a text among the texts of a tuple -/
theorem Cmp.notInTup {o : Bool} {ps : List (List Nat)} {m : List Nat} (h : Q (.bool (!decide (m ∈ ps))) σ) : Cmp C .NotIn (.txt o m) (.tup (ps.map (.txt o))) Q X σ := by
  intro z₀ x y rx ry zs z s hz hR
  obtain ⟨a, items, n, rfl, pa, q⟩ := rep_tupO (ry.mono hz) hR
  have rx := rx.mono hz
  obtain ⟨h1, h2⟩ := txtsAny rx q
  exact notIn_tupleAt (isT o m) (items := items.toArray) ⟨_, pa, rfl, n, rfl⟩ (fun y hy => isT_eq rx (h1 y (List.mem_toArray.mp hy))) (PVal.same hR (.bool _) (by rw [List.any_toArray, h2]; exact h))
end
end PL

end
section
open PySem PySem.Calls PyProof.Rows PySem.W
set_option Elab.async false
set_option linter.unusedVariables false
set_option maxHeartbeats 4000000
namespace PL
/-! the binary insertion sort, as a tree of questions, sorts -/
section
variable {ρ : Nat → Nat} {n : Nat} {cmp : Nat → Nat → (Bool → Shared → Prop) → Shared → Prop} {s : Shared}
noncomputable def keyA (ρ : Nat → Nat) (p : Array Nat) (i : Nat) : Nat := ρ (p.getD i 0)
/-- the questions are answered by rank -/
noncomputable def Answers (ρ : Nat → Nat) (n : Nat) (cmp : Nat → Nat → (Bool → Shared → Prop) → Shared → Prop) (s : Shared) : Prop :=
  ∀ (i j : Nat) (C : Bool → Shared → Prop), i < n → j < n → C (decide (ρ i < ρ j)) s → cmp i j C s
/-- an order of the numbers below n -/
noncomputable def OrdA (n : Nat) (p : Array Nat) : Prop := p.Perm (List.range n).toArray
theorem OrdA.size {p : Array Nat} (h : OrdA n p) : p.size = n := by rw [Array.Perm.size_eq h]; simp
theorem OrdA.lt {p : Array Nat} (h : OrdA n p) {i : Nat} (hi : i < n) : p.getD i 0 < n := by
  have hs := h.size
  have e : p.getD i 0 = p[i]'(by (clear h; (first | lia | omega))) := by simp [Array.getD, show i < p.size by (clear h; (first | lia | omega))]
  have hm : p[i]'(by (clear e h; (first | lia | omega))) ∈ p := Array.getElem_mem _
  have := (Array.Perm.mem_iff h).mp hm
  rw [e]
  simpa using this
theorem ask_ok (hA : Answers ρ n cmp s) {p : Array Nat} (h : OrdA n p) {i j : Nat} (hi : i < n) (hj : j < n) {α : Type} {k : Bool → KasT α} {Q : α → Shared → Prop}
    (hk : (k (decide (keyA ρ p i < keyA ρ p j))).kasWp cmp Q s) : (KasT.ask (p.getD i 0) (p.getD j 0) k).kasWp cmp Q s :=
  hA _ _ _ (h.lt hi) (h.lt hj) hk
noncomputable def Asc (ρ : Nat → Nat) (p : Array Nat) (m : Nat) : Prop := ∀ i j, i ≤ j → j < m → keyA ρ p i ≤ keyA ρ p j
noncomputable def Desc (ρ : Nat → Nat) (p : Array Nat) (m : Nat) : Prop := ∀ i j, i ≤ j → j < m → keyA ρ p j ≤ keyA ρ p i
theorem Asc.one {p : Array Nat} {m : Nat} (h : m ≤ 1) : Asc ρ p m := fun i j h1 h2 => by
  have : i = j := by (clear p; (first | lia | omega))
  rw [this]; exact Nat.le_refl _
theorem Asc.step {p : Array Nat} {m : Nat} (h : Asc ρ p m) (h1 : ¬ keyA ρ p m < keyA ρ p (m - 1)) (h0 : 1 ≤ m) : Asc ρ p (m + 1) := fun i j a b => by
  by_cases hj : j < m
  · exact h i j a hj
  · have hj : j = m := by (clear a h0 h1 h i p; (first | lia | omega))
    subst hj
    by_cases hi : i = j
    · rw [hi]; exact Nat.le_refl _
    · have := h i (j - 1) (by (clear hj b h1 h p h0; (first | lia | omega))) (by (clear hi hj b h1 h a i p; (first | lia | omega)))
      (clear hi hj b h0 h a; (first | lia | omega))
theorem key_rev {p : Array Nat} {i j : Nat} (hj : j ≤ p.size) (k : Nat) : keyA ρ (kas_rev p i j) k = if i ≤ k ∧ k < j then keyA ρ p (i + j - 1 - k) else keyA ρ p k := by
  unfold keyA kas_rev
  rw [Array.getD_eq_getD_getElem?, getElem?_mirror hj _ (by (clear k hj p; (first | lia | omega))), Array.getD_eq_getD_getElem?, Array.getD_eq_getD_getElem?]
  by_cases h : i ≤ k ∧ k < j
  · rw [if_pos h]
    by_cases h2 : i ≤ k ∧ k < i + (j - i) / 2 ∨ j - (j - i) / 2 ≤ k ∧ k < j
    · rw [if_pos h2]
    · rw [if_neg h2, show i + j - 1 - k = k from by (clear hj p; (first | lia | omega))]
  · rw [if_neg h, if_neg (by (clear hj p; (first | lia | omega)))]
theorem OrdA.rev {p : Array Nat} (h : OrdA n p) (i j : Nat) : OrdA n (kas_rev p i j) := (mirror_perm p i j _).trans h
theorem asc_ok (hA : Answers ρ n cmp s) {p : Array Nat} (h : OrdA n p) {Q : Nat → Shared → Prop} : ∀ (f m : Nat), 1 ≤ m → m + f ≤ n → Asc ρ p m →
    (∀ k, m ≤ k → k ≤ m + f → Asc ρ p k → (k = m + f ∨ keyA ρ p k < keyA ρ p (k - 1)) → Q k s) → (kas_asc p f m).kasWp cmp Q s
  | 0, m, _, _, ha, hq => hq m (Nat.le_refl _) (Nat.le_refl _) ha (.inl rfl)
  | f + 1, m, h1, hn, ha, hq => by
    unfold kas_asc
    refine ask_ok hA h (by (clear hq ha h1 Q h p hA; (first | lia | omega))) (by (clear hq ha Q h p hA h1; (first | lia | omega))) ?_
    by_cases c : keyA ρ p m < keyA ρ p (m - 1)
    · rw [decide_eq_true c, if_pos rfl]
      exact hq m (Nat.le_refl _) (by (clear c hq ha hn h1 Q h hA p; (first | lia | omega))) ha (.inr c)
    · rw [decide_eq_false c, if_neg (by decide)]
      exact asc_ok hA h f (m + 1) (by (clear c hq ha hn Q h hA f p h1; (first | lia | omega))) (by (clear c hq ha h1 Q h hA p; (first | lia | omega))) (ha.step c h1) fun k a b d e => hq k (by (clear e d b c hq ha hn h1 Q h hA f p; (first | lia | omega))) (by (clear e d a c hq ha hn h1 Q h hA p; (first | lia | omega))) d (by rw [show m + (f + 1) = m + 1 + f from by (clear e d b a c hq ha hn h1 Q h hA k p; (first | lia | omega))]; exact e)
theorem tail_ok (hA : Answers ρ n cmp s) {p : Array Nat} (h : OrdA n p) {m : Nat} (h1 : 1 ≤ m) (hm : m ≤ n) (hd : Desc ρ p m) {Q : Nat × Array Nat → Shared → Prop}
    (hq : ∀ k p', OrdA n p' → 1 ≤ k → k ≤ n → Asc ρ p' k → Q (k, p') s) : (kas_tail3 m n p).kasWp cmp Q s := by
  unfold kas_tail3
  rw [KasT.kasWp_bind]
  have hs := h.size
  refine asc_ok hA (h.rev 0 m) (n - m) m h1 (by (clear hq Q hd h1 h hA hs p; (first | lia | omega))) (fun i j a b => ?_) fun k a b d _ => hq k _ (h.rev 0 m) (by (clear d b hs hq Q hd hm h hA; (first | lia | omega))) (by (clear d a hq Q hd h1 h hA hs; (first | lia | omega))) d
  rw [key_rev (by (clear b a hq Q hd h1 h hA j i; (first | lia | omega))), key_rev (by (clear b a hq Q hd h1 h hA j i; (first | lia | omega))), if_pos (by (clear hs hq Q hd hm h1 h hA p; (first | lia | omega))), if_pos (by (clear a hs hq Q hd hm h1 h hA i p; (first | lia | omega)))]
  exact hd _ _ (by (clear hs hq Q hd hm h1 h hA p b; (first | lia | omega))) (by (clear hs hq Q hd hm h1 h hA p a; (first | lia | omega)))
/-- the last q + 1 are alike -/
noncomputable def Same (ρ : Nat → Nat) (p : Array Nat) (m q : Nat) : Prop := q + 1 ≤ m ∧ ∀ i, m - (q + 1) ≤ i → i < m → keyA ρ p i = keyA ρ p (m - 1)
theorem key_same {p : Array Nat} {m q : Nat} (hm : m ≤ p.size) (h : Same ρ p m q) (k : Nat) : keyA ρ (kas_rev p (m - (q + 1)) m) k = keyA ρ p k := by
  rw [key_rev hm]
  split
  · rename_i c
    rw [h.2 _ (by (clear h hm p; (first | lia | omega))) (by (clear h hm p; (first | lia | omega))), h.2 k c.1 c.2]
  · rfl
theorem Desc.step {p : Array Nat} {m : Nat} (h : Desc ρ p m) (h1 : keyA ρ p m ≤ keyA ρ p (m - 1)) (h0 : 1 ≤ m) : Desc ρ p (m + 1) := fun i j a b => by
  by_cases hj : j < m
  · exact h i j a hj
  · have hj : j = m := by (clear a h0 h1 h i p; (first | lia | omega))
    subst hj
    by_cases hi : i = j
    · rw [hi]; exact Nat.le_refl _
    · have := h i (j - 1) (by (clear hj b h1 h p h0; (first | lia | omega))) (by (clear hi hj b h1 h a i p; (first | lia | omega)))
      (clear hi hj b h0 h a; (first | lia | omega))
theorem Desc.congr {p p' : Array Nat} {m : Nat} (h : Desc ρ p m) (e : ∀ k, keyA ρ p' k = keyA ρ p k) : Desc ρ p' m := fun i j a b => by rw [e, e]; exact h i j a b
theorem desc_ok (hA : Answers ρ n cmp s) {Q : Array Nat × Nat × Nat → Shared → Prop} : ∀ (f : Nat) (p : Array Nat) (m q : Nat), OrdA n p → 1 ≤ m → m + f ≤ n → Desc ρ p m → Same ρ p m q →
    (∀ p' m' q', OrdA n p' → 1 ≤ m' → m' ≤ n → Desc ρ p' m' → Same ρ p' m' q' → Q (p', m', q') s) → (kas_desc f p m q).kasWp cmp Q s
  | 0, p, m, q, h, h1, hn, hd, hs, hq => hq p m q h h1 (by (clear hq hs hd h1 h q p Q hA; (first | lia | omega))) hd hs
  | f + 1, p, m, q, h, h1, hn, hd, hs, hq => by
    have hz := h.size
    unfold kas_desc
    refine ask_ok hA h (by (clear hq hs hd h1 h q Q hA hz p; (first | lia | omega))) (by (clear hq hs hd h q Q hA hz h1 p; (first | lia | omega))) ?_
    have s0 : ∀ p : Array Nat, Same ρ p (m + 1) 0 := fun p => ⟨by (first | lia | omega), fun i a b => by rw [show i = m + 1 - 1 from by (first | lia | omega)]⟩
    by_cases c : keyA ρ p m < keyA ρ p (m - 1)
    · rw [decide_eq_true c, if_pos rfl]
      have d1 := hd.step (Nat.le_of_lt c) h1
      by_cases c2 : q > 0
      · rw [if_pos c2]
        exact desc_ok hA f _ (m + 1) 0 (h.rev _ _) (by (clear c2 d1 c s0 hz hq hs hd hn h Q hA q p f h1; (first | lia | omega))) (by (clear c2 d1 c s0 hq hs hd h1 h Q hA q hz p; (first | lia | omega))) (d1.congr (key_same (by (clear c2 d1 c s0 hq hs hd h1 h Q hA q; (first | lia | omega))) hs)) (s0 _) hq
      · rw [if_neg c2]
        exact desc_ok hA f p (m + 1) 0 h (by (clear c2 d1 c s0 hz hq hs hd hn h Q hA q p f h1; (first | lia | omega))) (by (clear c2 d1 c s0 hq hs hd h1 h Q hA q hz p; (first | lia | omega))) d1 (s0 _) hq
    · rw [decide_eq_false c, if_neg (by decide)]
      refine ask_ok hA h (by (clear c s0 hq hs hd h q Q hA hz h1 p; (first | lia | omega))) (by (clear c s0 hq hs hd h1 h q Q hA hz p; (first | lia | omega))) ?_
      by_cases c2 : keyA ρ p (m - 1) < keyA ρ p m
      · rw [decide_eq_true c2, if_pos rfl]
        exact hq p m q h h1 (by (clear c2 c s0 hq hs hd h1 h q Q hA hz p; (first | lia | omega))) hd hs
      · rw [decide_eq_false c2, if_neg (by decide)]
        have e : keyA ρ p m = keyA ρ p (m - 1) := by (clear s0 hz hq hs hd hn h1 h q Q hA f; (first | lia | omega))
        refine desc_ok hA f p (m + 1) (q + 1) h (by (clear e c2 c s0 hz hq hs hd hn h q Q hA p f h1; (first | lia | omega))) (by (clear e c2 c s0 hq hs hd h1 h q Q hA hz p; (first | lia | omega))) (hd.step (by (clear e s0 hz hq hs hd hn h1 h q Q hA f c; (first | lia | omega))) h1) ⟨by have := hs.1; (clear e c2 c s0 hz hq hs hd hn h1 h Q hA p f; (first | lia | omega)), fun i a b => ?_⟩ hq
        rw [show m + 1 - 1 = m from rfl]
        by_cases x : i = m
        · rw [x]
        · rw [e]; exact hs.2 i (by (clear e c2 c s0 hz hq hs hd hn h1 h Q hA p f x b; (first | lia | omega))) (by (clear a e c2 c s0 hz hq hs hd hn h1 h Q hA q p f; (first | lia | omega)))
theorem descPart_ok (hA : Answers ρ n cmp s) {p : Array Nat} (h : OrdA n p) {m : Nat} (hm : m + 1 ≤ n) (hd : Desc ρ p (m + 1)) {Q : Nat × Array Nat → Shared → Prop}
    (hq : ∀ k p', OrdA n p' → 1 ≤ k → k ≤ n → Asc ρ p' k → Q (k, p') s) : (kas_descPart m n p).kasWp cmp Q s := by
  unfold kas_descPart
  rw [KasT.kasWp_bind]
  refine desc_ok hA (n - (m + 1)) p (m + 1) 0 h (by (clear hq Q hd hm h p hA; (first | lia | omega))) (by (clear hq Q hd h p hA; (first | lia | omega))) hd ⟨by (clear hq Q hd hm h p hA; (first | lia | omega)), fun i a b => by rw [show i = m + 1 - 1 from by (clear hq Q hd hm h p hA; (first | lia | omega))]⟩ fun p' m' q' h' a b d e => ?_
  dsimp only
  have hz := h'.size
  by_cases c : q' > 0
  · rw [if_pos c]
    exact tail_ok hA (h'.rev _ _) a b (d.congr (key_same (by (clear c e d a h' hq Q hd hm h p hA q' m; (first | lia | omega))) e)) hq
  · rw [if_neg c]
    exact tail_ok hA h' a b d hq
theorem count_ok (hA : Answers ρ n cmp s) {p : Array Nat} (h : OrdA n p) (h1 : 1 ≤ n) {Q : Nat × Array Nat → Shared → Prop}
    (hq : ∀ k p', OrdA n p' → 1 ≤ k → k ≤ n → Asc ρ p' k → Q (k, p') s) : (kas_count n p).kasWp cmp Q s := by
  unfold kas_count
  rw [KasT.kasWp_bind]
  refine asc_ok hA h (n - 1) 1 (Nat.le_refl _) (by (clear hq Q h p hA; (first | lia | omega))) (.one (Nat.le_refl _)) fun k a b d e => ?_
  by_cases c : k = n
  · rw [if_pos (by simpa using c)]
    exact hq k p h a (by (clear e d b a hq Q h1 h p hA; (first | lia | omega))) d
  · rw [if_neg (by simpa using c)]
    have e : keyA ρ p k < keyA ρ p (k - 1) := e.resolve_left (by (clear d b a hq Q h hA e p; (first | lia | omega)))
    have hz := h.size
    by_cases c2 : k > 1
    · rw [if_pos c2]
      refine ask_ok hA h (by (first | lia | omega)) (by (first | lia | omega)) ?_
      by_cases c3 : keyA ρ p 0 < keyA ρ p (k - 1)
      · rw [decide_eq_true c3, if_pos rfl]
        exact hq k p h a (by (first | lia | omega)) d
      · rw [decide_eq_false c3, if_neg (by decide)]
        have all : ∀ i, i < k → keyA ρ p i = keyA ρ p (k - 1) := fun i hi => by
          have a1 := d 0 i (Nat.zero_le _) hi
          have a2 := d i (k - 1) (by (first | lia | omega)) (by (first | lia | omega))
          (first | lia | omega)
        have e2 : ∀ i, keyA ρ (kas_rev p 0 k) i = keyA ρ p i := fun i => by
          rw [key_rev (by (first | lia | omega))]
          split
          · rename_i x
            rw [all _ (by (first | lia | omega)), all i x.2]
          · rfl
        refine descPart_ok hA (h.rev _ _) (by (first | lia | omega)) (fun i j x y => ?_) hq
        rw [e2, e2]
        by_cases z : j < k
        · rw [all i (by (first | lia | omega)), all j z]; exact Nat.le_refl _
        · rw [show j = k from by (first | lia | omega)]
          by_cases w : i = k
          · rw [w]; exact Nat.le_refl _
          · rw [all i (by (first | lia | omega))]; (first | lia | omega)
    · rw [if_neg c2]
      obtain rfl : k = 1 := by (first | lia | omega)
      refine descPart_ok hA h (by (first | lia | omega)) (fun i j x y => ?_) hq
      by_cases z : i = j
      · rw [z]; exact Nat.le_refl _
      · rw [show i = 0 from by (first | lia | omega), show j = 1 from by (first | lia | omega)]
        exact Nat.le_of_lt e
theorem place_ok (hA : Answers ρ n cmp s) {p : Array Nat} (h : OrdA n p) {k : Nat} (hk : k < n) (ha : Asc ρ p k) {Q : Nat → Shared → Prop} : ∀ (f l r : Nat), l ≤ r → r ≤ k → r - l ≤ f →
    (∀ i, i < l → keyA ρ p i ≤ keyA ρ p k) → (∀ i, r ≤ i → i < k → keyA ρ p k < keyA ρ p i) →
    (∀ m, m ≤ k → (∀ i, i < m → keyA ρ p i ≤ keyA ρ p k) → (∀ i, m ≤ i → i < k → keyA ρ p k < keyA ρ p i) → Q m s) → (kas_place p k f l r).kasWp cmp Q s
  | 0, l, r, h1, h2, h3, hl, hr, hq => by
    have : l = r := by (clear hq hr hl h2 Q ha hk h p hA k; (first | lia | omega))
    subst this
    exact hq l h2 hl hr
  | f + 1, l, r, h1, h2, h3, hl, hr, hq => by
    unfold kas_place
    by_cases c : l ≥ r
    · rw [if_pos c]
      have : l = r := by (clear hq hr hl h3 h2 Q ha hk h p hA f k; (first | lia | omega))
      subst this
      exact hq l h2 hl hr
    · rw [if_neg c]
      refine ask_ok hA h hk (by (clear hq hr hl h3 h1 Q ha h p hA f; (first | lia | omega))) ?_
      by_cases c2 : keyA ρ p k < keyA ρ p ((l + r) / 2)
      · rw [decide_eq_true c2, if_pos rfl]
        refine place_ok hA h hk ha f l ((l + r) / 2) (by (clear c2 hq hr hl h3 h2 h1 Q ha hk h hA f k p; (first | lia | omega))) (by (clear c2 hq hr hl h3 h1 Q ha hk h hA f p; (first | lia | omega))) (by (clear c2 hq hr hl h2 h1 Q ha hk h hA k p c; (first | lia | omega))) hl (fun i a b => ?_) hq
        have := ha ((l + r) / 2) i a b
        (clear b a c hq hr hl h3 h2 h1 Q ha hk h hA f; (first | lia | omega))
      · rw [decide_eq_false c2, if_neg (by decide)]
        refine place_ok hA h hk ha f ((l + r) / 2 + 1) r (by (clear c2 hq hr hl h3 h2 h1 Q ha hk h hA f k p; (first | lia | omega))) h2 (by (clear c2 hq hr hl h2 h1 Q ha hk h hA k p c; (first | lia | omega))) (fun i a => ?_) hr hq
        have := ha i ((l + r) / 2) (by (clear c2 c hq hr hl h3 h2 h1 Q ha hk h hA f k p; (first | lia | omega))) (by (clear a c2 hq hr hl h3 h1 Q ha hk h hA i f p; (first | lia | omega)))
        (clear a c hq hr hl h3 h2 h1 Q ha hk h hA f; (first | lia | omega))
theorem key_bub {p : Array Nat} {k d : Nat} (hk : k < p.size) (hd : d ≤ k) (i : Nat) : keyA ρ (bubble p k d) i = if i = k - d then keyA ρ p k else if k - d < i ∧ i ≤ k then keyA ρ p (i - 1) else keyA ρ p i := by
  unfold keyA
  simp only [Array.getD_eq_getD_getElem?]
  rw [getElem?_bubble hk d hd]
  split
  · rfl
  · split <;> rfl
theorem bin_ok (hA : Answers ρ n cmp s) {Q : Array Nat → Shared → Prop} : ∀ (f : Nat) (p : Array Nat) (k : Nat), OrdA n p → k + f = n → Asc ρ p k → (∀ p', OrdA n p' → Asc ρ p' n → Q p' s) → (kas_bin f p k).kasWp cmp Q s
  | 0, p, k, h, hk, ha, hq => hq p h (by rw [← hk]; exact ha)
  | f + 1, p, k, h, hk, ha, hq => by
    have hz := h.size
    unfold kas_bin
    rw [KasT.kasWp_bind]
    refine place_ok hA h (by (clear hz hq ha h Q hA p; (first | lia | omega))) ha k 0 k (Nat.zero_le _) (Nat.le_refl _) (by (clear hq ha h Q hA hz hk p f; (first | lia | omega))) (fun i a => by (clear hz hq ha hk h Q hA f; (first | lia | omega))) (fun i a b => by (clear hq ha h Q hA hz hk f; (first | lia | omega))) fun m hm h1 h2 => ?_
    refine bin_ok hA f _ (k + 1) ((bubble_perm p k _).trans h) (by (clear h2 h1 hm hz hq ha h Q hA m p; (first | lia | omega))) (fun i j a b => ?_) hq
    rw [key_bub (by (clear b a h2 h1 hm hq ha h Q hA j i m; (first | lia | omega))) (by (clear b a h2 h1 hq ha h Q hA j i hm hz hk p f; (first | lia | omega))), key_bub (by (clear b a h2 h1 hm hq ha h Q hA j i m; (first | lia | omega))) (by (clear b a h2 h1 hq ha h Q hA j i hm hz hk p f; (first | lia | omega))), show k - (k - m) = m from by (clear b a h2 h1 hq ha h Q hA j i hz hk p f; (first | lia | omega))]
    by_cases i1 : i = m
    · rw [if_pos i1]
      by_cases j1 : j = m
      · rw [if_pos j1]; exact Nat.le_refl _
      · rw [if_neg j1, if_pos (by (clear h2 h1 hm hq ha h Q hA hz hk p f; (first | lia | omega)))]
        exact Nat.le_of_lt (h2 _ (by (clear b h2 h1 hm hz hq ha hk h Q hA k p f; (first | lia | omega))) (by (clear h2 h1 hm hq ha h Q hA hz hk p f; (first | lia | omega))))
    · rw [if_neg i1]
      by_cases j1 : j = m
      · rw [if_pos j1, if_neg (by (clear i1 b h2 h1 hm hz hq ha hk h Q hA p f; (first | lia | omega)))]
        exact h1 i (by (clear b h2 h1 hm hz hq ha hk h Q hA k p f; (first | lia | omega)))
      · rw [if_neg j1]
        by_cases j2 : m < j
        · rw [if_pos (show m < j ∧ j ≤ k by (clear j1 i1 a h2 h1 hm hq ha h Q hA i hz hk p f; (first | lia | omega)))]
          by_cases i2 : m < i
          · rw [if_pos (by (clear j2 j1 i1 h2 h1 hm hq ha h Q hA hz hk p f; (first | lia | omega)))]; exact ha _ _ (by (clear j2 j1 i1 b h2 h1 hm hz hq ha hk h Q hA k p f i2 m; (first | lia | omega))) (by (clear j2 j1 i1 h2 h1 hm hq ha h Q hA hz hk p f; (first | lia | omega)))
          · rw [if_neg (by (clear j2 j1 i1 b a h2 h1 hm hz hq ha hk h Q hA j p f; (first | lia | omega)))]; exact ha _ _ (by (clear j1 i1 b h2 h1 hm hz hq ha hk h Q hA k p f a; (first | lia | omega))) (by (clear j1 i1 h2 h1 hm hq ha h Q hA i2 a i hz hk p f; (first | lia | omega)))
        · rw [if_neg (show ¬ (m < j ∧ j ≤ k) by (clear j1 i1 b a h2 h1 hm hz hq ha hk h Q hA i p f; (first | lia | omega))), if_neg (by (clear j1 i1 b h2 h1 hm hz hq ha hk h Q hA p f; (first | lia | omega)))]
          exact ha _ _ a (by (clear i1 a h2 h1 hq ha h Q hA i b hz hk p f; (first | lia | omega)))
/-- the sort -/
theorem tree_ok (hA : Answers ρ n cmp s) (h1 : 1 ≤ n) {Q : Array Nat → Shared → Prop} (hq : ∀ p, OrdA n p → Asc ρ p n → Q p s) : (kas_sort n).kasWp cmp Q s := by
  unfold kas_sort
  rw [KasT.kasWp_bind]
  refine count_ok hA (p := List.toArray (List.range n)) (Array.Perm.refl _) h1 fun k p h a b d => ?_
  dsimp only
  by_cases c : k < n
  · rw [if_pos c]
    rw [show max k 1 = k from by (clear c d b h p hq Q h1 hA; (first | lia | omega))]
    exact bin_ok hA (n - k) p k h (by (clear d b a h p hq Q h1 hA; (first | lia | omega))) d hq
  · rw [if_neg c]
    exact hq p h (by rw [show n = k from by (clear d a h p hq Q h1 hA; (first | lia | omega))]; exact d)
end
end PL

end
section
open PySem PySem.Calls PyProof.Rows PySem.W
set_option Elab.async false
set_option linter.unusedVariables false
set_option maxHeartbeats 4000000
namespace PL
section
variable {prog : Program} {w : World} {A : Around} {E : Value → Shared → Prop} {s : Shared}
noncomputable abbrev outA (vs : List Value) (p : Array Nat) : List Value := p.toList.map fun i => vs.getD i Value.none
noncomputable abbrev KeptFrom (a : Addr) (h h' : Heap) : Prop := ∀ b o, b ≠ a → h.get? b = some o → h'.get? b = some o
theorem sort_kept {h : Heap} {a : Addr} (f : Array Value → Array Value) : KeptFrom a h (h.update a (Obj.mapSeq f)) := fun b o hb e => by
  rw [Heap.get?_update_ne _ _ _ _ hb]; exact e
/-- the sort of a list in place -/
theorem sort_any {κ : SortKind} {ρ : Nat → Nat} {a : Addr} {vs : List Value} {n : Nat} {P : PySem.Fin → Shared → Prop} (ho : s.heap.get? a = some (seqObj "list" vs.toArray n)) (h64 : vs.length < 64)
    (hk : 2 ≤ vs.length → ∀ h1, KeptFrom a s.heap h1 → ∀ (Q : SortKind → Shared → Prop) E, Q κ { s with heap := h1 } → wpAny (model prog w) A (keyKind' vs.toArray) Q E { s with heap := h1 })
    (hA : ∀ h1, KeptFrom a s.heap h1 → Answers ρ vs.length (kas_ask prog w A κ vs) { s with heap := h1 })
    (h : ∀ p h' e, OrdA vs.length p → Asc ρ p vs.length → KeptFrom a s.heap h' → h'.get? a = some (seqObj "list" (outA vs p).toArray e) → P (.done (.ret .none)) { s with heap := h' }) :
    wpAny (model prog w) A (Builtin.«list.sort» ⟨[.ref a], []⟩) P E s := by
  have ha : a < s.heap.objs.size := Heap.lt_size ho
  obtain ⟨e1, ho1⟩ : ∃ e1, (s.heap.update a (Obj.mapSeq fun _ => (#[] : Array Value))).get? a = some (seqObj "list" #[] e1) := ⟨_, get?_update_seq ho fun _ => #[]⟩
  have k1 : KeptFrom a s.heap (((s.heap.update a (Obj.mapSeq fun _ => (#[] : Array Value))).push (seqObj "tuple" vs.toArray 0)).push (seqObj "list" #[] 0)) :=
    fun b o hb e => Heap.get?_push_of_some _ (Heap.get?_push_of_some _ (sort_kept _ b o hb e))
  have ho6 : (((s.heap.update a (Obj.mapSeq fun _ => (#[] : Array Value))).push (seqObj "tuple" vs.toArray 0)).push (seqObj "list" #[] 0)).get? a = some (seqObj "list" #[] e1) :=
    Heap.get?_push_of_some _ (Heap.get?_push_of_some _ ho1)
  rw [list_sort_plain]
  refine wpAny_bind (listItems_at ho rfl ?_)
  refine wpAny_bind (listUpdate_at ho rfl ?_ (by rw [List.size_toArray, sizeLine_eq]; (clear ho6 k1 ho1 e1 ha h hA hk ho P n a ρ κ; (first | lia | omega))) (Nat.zero_le _))
  refine wpAny_bind (seqEpoch_at ho1 rfl ?_)
  refine wpAny_bind (wpAny_newTuple ?_ (by show vs.length ≤ _; rw [sizeLine_eq]; (clear ho6 k1 ho1 e1 ha h hA hk ho P n a ρ κ; (first | lia | omega))))
  refine wpAny_bind (wpAny_newList ?_ (Nat.zero_le _))
  refine wpAny_holding ?_
  show wpAny (model prog w) A _ P E { s with heap := ((s.heap.update a (Obj.mapSeq fun _ => (#[] : Array Value))).push (seqObj "tuple" vs.toArray 0)).push (seqObj "list" #[] 0) }
  generalize ((s.heap.update a (Obj.mapSeq fun _ => (#[] : Array Value))).push (seqObj "tuple" vs.toArray 0)).push (seqObj "list" #[] 0) = h1 at k1 ho6 ⊢
  dsimp only
  have fin : ∀ p, OrdA vs.length p → Asc ρ p vs.length → P (.done (.ret .none)) { s with heap := h1.update a (Obj.mapSeq fun _ => (outA vs p).toArray) } := fun p hp ha => by
    refine h p _ _ hp ha (fun b o hb e => sort_kept _ b o hb (k1 b o hb e)) (get?_update_seq ho6 fun _ => (outA vs p).toArray)
  have hol : ∀ p : Array Nat, OrdA vs.length p → (outA vs p).toArray.size = vs.length := fun p hp => by rw [List.size_toArray, List.length_map, Array.length_toList, hp.size]
  by_cases h2 : vs.toArray.size < 2
  · rw [if_pos h2, if_pos h2]
    refine wpAny_bind (wpAny_pure ?_)
    rw [StateT.run_pure]
    refine wpAny_bind (wpAny_pure ?_)
    dsimp only
    rw [List.size_toArray] at h2
    have e0 : (arrOf (SortSt.mk' general' (vs.toArray.zip vs.toArray) #[] 7 none)).map (·.2) = (outA vs (List.range vs.length).toArray).toArray := by
      show (vs.toArray.zip vs.toArray).map (·.2) = _
      match vs, h2 with
      | [], _ => simp [outA]
      | [_], _ => simp [outA, List.range_succ]
      | _ :: _ :: _, h => simp at h; (clear hol fin hA hk h64 ho h2 ho6 k1 h1 ho1 e1 ha n κ vs; (first | lia | omega))
    rw [e0]
    refine wpAny_bind (seqEpoch_at ho6 rfl ?_)
    refine wpAny_bind (listUpdate_at ho6 rfl ?_ (Nat.zero_le _) (by rw [hol _ (Array.Perm.refl _), sizeLine_eq]; (clear e0 hol fin ho6 k1 h1 ho1 e1 ha h hA hk ho P n a ρ κ h2; (first | lia | omega))))
    simp only [bne_self_eq_false, Bool.false_eq_true, if_false]
    exact wpAny_pure (fin _ (Array.Perm.refl _) fun i j a b => by rw [show i = j from by (clear e0 hol fin ho6 k1 h1 ho1 e1 ha h hA hk ho P n ρ κ h64; (first | lia | omega))]; exact Nat.le_refl _)
  · rw [if_neg h2, if_neg h2]
    rw [List.size_toArray] at h2
    refine wpAny_bind (hk (by (clear hol fin ho6 k1 h1 ho1 e1 ha h hA hk ho P n a ρ κ h64; (first | lia | omega))) h1 k1 _ _ ?_)
    refine wpAny_bind (wpAny_mono (kat_run (Q := fun st' s' => ∃ p : Array Nat, OrdA vs.length p ∧ Asc ρ p vs.length ∧ arrOf st' = p.map (kas_item (vs.toArray.zip vs.toArray)) ∧ failedOf st' = none ∧ s' = { s with heap := h1 })
      rfl (by (clear hol fin ho6 k1 h1 ho1 e1 ha h hA hk ho P n a ρ κ h64; (first | lia | omega))) h64 (fun p st' s' _ a2 a3 a4 => ⟨p, a4.1, a4.2.1, a2, a3, a4.2.2⟩)
      (tree_ok (Q := fun p s' => OrdA vs.length p ∧ Asc ρ p vs.length ∧ s' = { s with heap := h1 }) (hA h1 k1) (by (clear hol fin ho6 k1 h1 ho1 e1 ha h hA hk ho P n a ρ κ h64; (first | lia | omega))) fun p a b => ⟨a, b, rfl⟩)) ?_ fun _ _ e => e)
    rintro ⟨⟨⟩, st'⟩ s' ⟨p, hp, hs, har, hf, rfl⟩
    dsimp only
    have hout := kat_snds (ks := vs) (vs := vs) rfl har
    rw [hout]
    refine wpAny_bind (seqEpoch_at ho6 rfl ?_)
    refine wpAny_bind (listUpdate_at ho6 rfl ?_ (Nat.zero_le _) (by rw [hol p hp, sizeLine_eq]; (clear hout hf har hs hp p st' hol fin ho6 k1 h1 ho1 e1 ha h hA hk ho P n a ρ κ h2; (first | lia | omega))))
    rw [hf]
    simp only [bne_self_eq_false, Bool.false_eq_true, if_false]
    exact wpAny_pure (fin p hp hs)
/-- sorted -/
theorem sorted_any {κ : SortKind} {ρ : Nat → Nat} {l : Addr} {vs : List Value} {Q : Value → Shared → Prop} (hl : s.heap.IsList l vs.toArray) (h64 : vs.length < 64)
    (hk : 2 ≤ vs.length → ∀ h1, (∀ b o, s.heap.get? b = some o → h1.get? b = some o) → ∀ (Q : SortKind → Shared → Prop) E, Q κ { s with heap := h1 } → wpAny (model prog w) A.in1.in1 (keyKind' vs.toArray) Q E { s with heap := h1 })
    (hA : ∀ h1, (∀ b o, s.heap.get? b = some o → h1.get? b = some o) → Answers ρ vs.length (kas_ask prog w A.in1.in1 κ vs) { s with heap := h1 })
    (h : ∀ p h' a e, OrdA vs.length p → Asc ρ p vs.length → s.heap.objs.size ≤ a → (∀ b o, s.heap.get? b = some o → h'.get? b = some o) → h'.get? a = some (seqObj "list" (outA vs p).toArray e) → Q (.ref a) { s with heap := h' }) :
    wpAny (model prog w) A (call (.builtin "sorted") [.ref l]) Q E s := by
  refine Calls.call_function_entry kind_sorted plain_sorted entry_sorted (args_sorted1 _) ?_
  unfold Builtin.«sorted»
  refine wpAny_bind (m := checkCount "sorted" 1 1 _) (wpAny_pure ?_)
  refine wpAny_bind (collect_list hl ?_ (by rw [sizeLine_eq]; (clear h hA hk hl Q l ρ κ; (first | lia | omega))))
  refine wpAny_bind (wpAny_newList ?_ (by rw [sizeLine_eq]; (clear h hA hk hl Q l ρ κ; (first | lia | omega))))
  have hsz : ((s.heap.push (seqObj "list" #[] 0)).update s.heap.objs.size (Obj.mapSeq (· ++ vs.toArray))).objs.size = s.heap.objs.size + 1 := by
    rw [Heap.size_update, size_push']
  have hoL : (((s.heap.push (seqObj "list" #[] 0)).update s.heap.objs.size (Obj.mapSeq (· ++ vs.toArray))).push (seqObj "list" vs.toArray 0)).get? (s.heap.objs.size + 1) = some (seqObj "list" vs.toArray 0) := by
    rw [← hsz]; exact Heap.get?_push_size _ rfl
  have keep : ∀ b o, s.heap.get? b = some o → b ≠ s.heap.objs.size + 1 ∧ (((s.heap.push (seqObj "list" #[] 0)).update s.heap.objs.size (Obj.mapSeq (· ++ vs.toArray))).push (seqObj "list" vs.toArray 0)).get? b = some o := fun b o q => by
    have hlt : b < s.heap.objs.size := Heap.lt_size q
    refine ⟨Nat.ne_of_lt (Nat.lt_succ_of_lt hlt), ?_⟩
    exact Heap.get?_push_of_some _ (sort_kept _ b o (Nat.ne_of_lt hlt) (Heap.get?_push_of_some _ q))
  show wpAny _ _ _ _ _ { s with heap := ((s.heap.push (seqObj "list" #[] 0)).update s.heap.objs.size (Obj.mapSeq (· ++ vs.toArray))).push (seqObj "list" vs.toArray 0) }
  rw [hsz]
  generalize ((s.heap.push (seqObj "list" #[] 0)).update s.heap.objs.size (Obj.mapSeq (· ++ vs.toArray))).push (seqObj "list" vs.toArray 0) = h0 at hoL keep ⊢
  have up : ∀ h1, KeptFrom (s.heap.objs.size + 1) h0 h1 → ∀ b o, s.heap.get? b = some o → h1.get? b = some o := fun h1 k b o q => k b o (keep b o q).1 (keep b o q).2
  refine wpAny_bind (wpAny_holding (wpAny_call_entry slot_list_sort ⟨_, hoL, rfl⟩ entry_list_sort (sort_any (s := { s with heap := h0 }) (κ := κ) (ρ := ρ) hoL h64
    (fun h2 h1 k => hk h2 h1 (up h1 k)) (fun h1 k => hA h1 (up h1 k)) fun p h' e hp ha k q => ⟨_, rfl, ?_⟩) (args_list_sort _)))
  exact wpAny_pure ⟨_, rfl, h p h' _ e hp ha (Nat.le_succ _) (up h' k) q⟩
end
end PL

end
section
open PySem PySem.Calls PyProof.Rows PySem.W PySem.SeqAt
set_option Elab.async false
set_option linter.unusedVariables false
set_option maxHeartbeats 4000000
namespace PL
/-! ranks -/
section
variable {α : Type}
theorem count_le (f g : α → Bool) : ∀ (l : List α), (∀ x ∈ l, f x = true → g x = true) → l.countP f ≤ l.countP g
  | [], _ => Nat.le_refl _
  | x :: l, h => by
    have ih := count_le f g l fun y hy => h y (List.mem_cons_of_mem _ hy)
    rw [List.countP_cons, List.countP_cons]
    by_cases c : f x = true
    · rw [if_pos c, if_pos (h x (by simp) c)]; (first | lia | omega)
    · rw [if_neg c]; split <;> (first | lia | omega)
theorem count_lt (f g : α → Bool) : ∀ (l : List α), (∀ x ∈ l, f x = true → g x = true) → (∃ x ∈ l, g x = true ∧ f x = false) → l.countP f < l.countP g
  | [], _, ⟨_, h, _⟩ => by cases h
  | x :: l, h, ⟨y, hy, h1, h2⟩ => by
    have h' := fun y (hy : y ∈ l) => h y (List.mem_cons_of_mem _ hy)
    rw [List.countP_cons, List.countP_cons]
    rcases List.mem_cons.mp hy with e | e
    · have := count_le f g l h'
      rw [← e, if_pos h1, if_neg (by rw [h2]; decide)]; (first | lia | omega)
    · have ih := count_lt f g l h' ⟨y, e, h1, h2⟩
      by_cases c : f x = true
      · rw [if_pos c, if_pos (h x (by simp) c)]; (first | lia | omega)
      · rw [if_neg c]; split <;> (first | lia | omega)
end
/-- how many of the texts are before this one -/
noncomputable def rankT (ps : List (List Nat)) (a : List Nat) : Nat := ps.countP fun q => ltT q a
theorem rank_lt {ps : List (List Nat)} {a b : List Nat} (ha : a ∈ ps) : decide (rankT ps a < rankT ps b) = ltT a b := by
  by_cases h : ltT a b = true
  · rw [h]
    refine decide_eq_true (count_lt _ _ ps (fun q _ k => ltT_trans k h) ⟨a, ha, h, ltT_irrefl a⟩)
  · have h : ltT a b = false := by simpa using h
    rw [h]
    refine decide_eq_false (Nat.not_lt.mpr ?_)
    by_cases k : ltT b a = true
    · exact count_le _ _ ps fun q _ e => ltT_trans e k
    · rw [ltT_conn h (by simpa using k)]
      exact Nat.le_refl _
section
variable {prog : Program} {w : World} {A : Around} {E : Value → Shared → Prop} {s : Shared} {z : Z}
theorem oneLtT {o : Bool} {l m : List Nat} {x y : Value} {Q : Bool → Shared → Prop} (r : Rep z (.txt o l) x) (q : Rep z (.txt o m) y) (h : Q (ltT l m) s) : wpAny (model prog w) A (oneLt' true x y) Q E s := by
  have rq := r.txt_; clear r; rcases rq with ⟨rfl, t, rfl⟩ | ⟨rfl, t, rfl, hl⟩
  · have qq := q.e; clear q; obtain ⟨u, rfl⟩ := qq
    exact oneLt_str h
  · have qq := q.e; clear q; obtain ⟨u, rfl, hm⟩ := qq
    rw [oneLt'_eq]
    simp only [if_true]
    refine wpAny_bind (wpAny_cRoomFor_byValue rfl ?_)
    refine wpAny_bind (wpAny_callSpecialIfBound?_slot (PySem.W.typeIs_bytes _ _ _) BF.slot_bytes_lt (call_gives BF.slot_bytes_lt (PySem.W.typeIs_bytes _ _ _) BF.entry_bytes_lt (BF.args_bytes_lt _ _) (gives_bytes_lt hl hm t u) ?_))
    exact wpAny_truthy_bool h
theorem firsts_none : ∀ (vs : List Value), (∀ v ∈ vs, firstOfTuple' v = pure none) → vs.mapM firstOfTuple' = pure (vs.map fun _ => none)
  | [], _ => by simp
  | v :: vs, h => by rw [List.mapM_cons, h v (by simp), firsts_none vs fun x hx => h x (List.mem_cons_of_mem _ hx)]; simp
theorem types_all (T : Value) : ∀ (vs : List Value), (∀ v ∈ vs, typeOf v = pure T) → vs.mapM typeOf = pure (vs.map fun _ => T)
  | [], _ => by simp
  | v :: vs, h => by
    rw [List.mapM_cons, h v (by simp), types_all T vs fun x hx => h x (List.mem_cons_of_mem _ hx)]
    simp
theorem kind_texts {o : Bool} {ps : List (List Nat)} {vs : List Value} (r : RepL z (ps.map (.txt o)) vs) (h2 : 2 ≤ vs.length) : keyKind' vs.toArray = pure oneType' := by
  have key : ∀ v ∈ vs, firstOfTuple' v = pure none ∧ typeOf v = pure (.type (tyOf o)) := by
    intro v hv
    obtain ⟨i, hi⟩ := List.mem_iff_getElem?.mp hv
    have hil := (List.getElem?_eq_some_iff.mp hi).1
    rw [r.length, List.length_map] at hil
    obtain ⟨x, hx, rx⟩ := r.get (i := i) (v := .txt o ps[i]) (by simp [hil])
    rw [hi] at hx
    cases hx
    have rq := rx.txt_; clear rx; rcases rq with ⟨rfl, t, rfl⟩ | ⟨rfl, t, rfl, hl⟩ <;> exact ⟨rfl, rfl⟩
  rw [keyKind'_eq, List.mapM_toArray, firsts_none vs fun v hv => (key v hv).1]
  simp only [map_pure, pure_bind]
  obtain ⟨a, b, rest, rfl⟩ : ∃ a b rest, vs = a :: b :: rest := by
    match vs, h2 with
    | a :: b :: rest, _ => exact ⟨a, b, rest, rfl⟩
  rw [if_neg (by simp), if_neg (by simp)]
  rw [oneTypeOnly'_eq, List.mapM_toArray, types_all (.type (tyOf o)) _ fun v hv => (key v hv).2]
  simp only [map_pure, pure_bind]
  have hall : ((List.map (fun _ => Value.type (tyOf o)) (a :: b :: rest)).toArray.all fun x => x == Value.type (tyOf o)) = true := by
    simp only [List.all_toArray, List.all_map, List.all_eq_true]
    intro _ _
    cases o <;> rfl
  have h0 : (List.map (fun _ => Value.type (tyOf o)) (a :: b :: rest)).toArray[0]? = some (Value.type (tyOf o)) := by simp
  rw [h0]
  simp only [hall, if_true, pure_bind, Option.isSome_some]
end
section
variable {C : Cx} {X : XP} {σ : St} {Q : V → St → Prop}
theorem perm_out {α : Type} (l : List α) (d : α) {p : Array Nat} (h : OrdA l.length p) : (p.toList.map fun i => l.getD i d).Perm l := by
  have h1 : p.toList.Perm (List.range l.length) := by
    have := Array.perm_iff_toList_perm.mp h
    simpa using this
  have h2 := h1.map (fun i => l.getD i d)
  have e : (List.range l.length).map (fun i => l.getD i d) = l := by
    apply List.ext_getElem?
    intro i
    rw [List.getElem?_map]
    by_cases hi : i < l.length
    · rw [List.getElem?_range hi]; simp [hi]
    · rw [List.getElem?_eq_none (by simpa using hi), List.getElem?_eq_none (by (first | lia | omega))]; rfl
  rwa [e] at h2
theorem sorted_pairwise {α : Type} (l : List α) (d : α) (f : α → Nat) {p : Array Nat} (h : OrdA l.length p) (ha : Asc (fun i => f (l.getD i d)) p l.length) : (p.toList.map fun i => l.getD i d).Pairwise fun a b => f a ≤ f b := by
  rw [List.pairwise_iff_getElem]
  intro i j hi hj hij
  rw [List.length_map, Array.length_toList] at hi hj
  have hs := h.size
  have := ha i j (Nat.le_of_lt hij) (by (first | lia | omega))
  unfold keyA at this
  have e : ∀ k (hk : k < p.size), p.getD k 0 = p[k] := fun k hk => by simp [Array.getD, hk]
  rw [e i hi, e j hj] at this
  simpa using this
theorem rep_out {z : Z} {α : Type} (φ : α → V) (l : List α) (d : α) {xs : List Value} (r : RepL z (l.map φ) xs) : ∀ {is : List Nat}, (∀ i ∈ is, i < l.length) → RepL z ((is.map fun i => l.getD i d).map φ) (is.map fun i => xs.getD i Value.none)
  | [], _ => .nil
  | i :: is, h => by
    have hi := h i (by simp)
    obtain ⟨x, hx, rx⟩ := r.get (i := i) (v := φ l[i]) (by simp [hi])
    have ih := rep_out φ l d r (is := is) fun j hj => h j (List.mem_cons_of_mem _ hj)
    rw [List.map_cons, List.map_cons, List.map_cons]
    refine .cons ?_ ih
    rw [List.getD_eq_getElem?_getD, List.getD_eq_getElem?_getD, hx, List.getElem?_eq_getElem hi]
    exact rx
/-- sorted, of texts -/
theorem call_sortedT {o : Bool} {v : V} {ps : List (List Nat)} (k : IsL σ v (ps.map (.txt o))) (h64 : ps.length < 64)
    (h : ∀ qs : List (List Nat), qs.Perm ps → qs.Pairwise (fun a b => ltT b a = false) → Q (.lst (qs.map (.txt o))) σ) : CallV C (.builtin "sorted") [v] Q X σ := by
  refine CallV.toks fun z₀ zs z s xs hz hR r => ?_
  have rq := RepL.inv r; clear r; obtain ⟨_, _, rfl, r, t⟩ := rq
  cases t.inv0; clear t
  obtain ⟨a, items, rfl, hl, q⟩ := k.at r (Z.le_refl _) hR
  have hlen : items.length = ps.length := by rw [q.length, List.length_map]
  have gt : ∀ i, i < ps.length → Rep z (.txt o (ps.getD i [])) (items.getD i Value.none) := fun i hi => by
    obtain ⟨x, hx, rx⟩ := q.get (i := i) (v := .txt o ps[i]) (by simp [hi])
    rw [List.getD_eq_getElem?_getD, List.getD_eq_getElem?_getD, hx, List.getElem?_eq_getElem hi]
    exact rx
  have hm : ∀ i, i < ps.length → ps.getD i [] ∈ ps := fun i hi => by
    rw [List.getD_eq_getElem?_getD, List.getElem?_eq_getElem hi]; exact List.getElem_mem _
  refine sorted_any (κ := oneType') (ρ := fun i => rankT ps (ps.getD i [])) hl (by (first | lia | omega)) (fun h2 h1 _ Q' E' hq => by rw [kind_texts q h2]; exact wpAny_pure hq)
    (fun h1 _ i j C' hi hj hc => ?_) fun p h' b e hp ha hb hk hbo => ?_
  · rw [hlen] at hi hj
    show wpAny _ _ (keyLt' oneType' _ _) _ _ _
    rw [keyLt'_oneType]
    refine oneLtT (gt i hi) (gt j hj) ?_
    rw [← rank_lt (hm i hi)]
    exact hc
  · rw [hlen] at hp ha
    have h1 := perm_out ps [] hp
    have h2 := sorted_pairwise ps [] (rankT ps) hp ha
    have R' := hR.grow (t := s.toks) hk
    have ap : Apart C zs σ b := hR.apart_new hb
    have R2 := R'.freeze hbo ap
    refine ⟨_, σ, Z.le_put R'.rh hbo, R2, .lst (((p.toList.map fun i => ps.getD i []).map (.txt o))), .lst put_self ?_, h _ h1 ?_⟩
    · exact (rep_out (.txt o) ps [] q fun i hi => by
        have := (Array.Perm.mem_iff hp).mp (Array.mem_toList_iff.mp hi)
        simpa using this).mono (Z.le_put R'.rh hbo)
    · refine List.Pairwise.imp_of_mem (fun {a b} ha hb hab => ?_) h2
      have hb' := h1.mem_iff.mp hb
      rw [← rank_lt hb']
      exact decide_eq_false (by (first | lia | omega))
end
end PL

end
section
open PySem PySem.Calls PyProof.Rows PySem.W PySem.SeqAt
set_option Elab.async false
set_option linter.unusedVariables false
set_option maxHeartbeats 4000000
namespace PL
noncomputable abbrev pairT (o : Bool) (p : List Nat × Nat) : V := .tup [.txt o p.1, .int (p.2 : Int)]
theorem pair_rep {z : Z} {o : Bool} {p : List Nat × Nat} {x : Value} (r : Rep z (pairT o p) x) : ∃ a f t n, x = .ref a ∧ z a = some (tupO [f, .int (p.2 : Int) t] n) ∧ Rep z (.txt o p.1) f := by
  obtain ⟨a, items, n, rfl, hz, rl⟩ := r.e
  obtain ⟨f, xs, rfl, rf, rl⟩ := rl.inv
  obtain ⟨g, ys, rfl, rg, rl⟩ := rl.inv
  cases rl.inv0
  obtain ⟨t, rfl⟩ := rg.e
  exact ⟨a, f, t, n, rfl, hz, rf⟩
theorem type_txt {z : Z} {o : Bool} {l : List Nat} {x : Value} (r : Rep z (.txt o l) x) : typeOf x = pure (.type (tyOf o)) := by
  have rq := r.txt_; clear r; rcases rq with ⟨rfl, t, rfl⟩ | ⟨rfl, t, rfl, hl⟩ <;> rfl
theorem tups_of {z : Z} {h : Heap} {o : Bool} (k : ∀ b ob, z b = some ob → h.get? b = some ob) : ∀ {ps : List (List Nat × Nat)} {vs : List Value}, RepL z (ps.map (pairT o)) vs →
    ∃ fs, KatTups h vs fs ∧ fs.length = vs.length ∧ ∀ f ∈ fs, typeOf f = pure (.type (tyOf o))
  | [], vs, r => by cases r.inv0; exact ⟨[], trivial, rfl, fun f hf => by cases hf⟩
  | p :: ps, vs, r => by
    obtain ⟨x, xs, rfl, rx, rs⟩ := RepL.inv r
    obtain ⟨a, f, t, n, rfl, hz, rf⟩ := pair_rep rx
    obtain ⟨fs, h1, h2, h3⟩ := tups_of k rs
    refine ⟨f :: fs, .cons (k _ _ hz) rfl rfl rfl h1, by rw [List.length_cons, List.length_cons, h2], fun g hg => ?_⟩
    rcases List.mem_cons.mp hg with e | e
    · rw [e]; exact type_txt rf
    · exact h3 g e
section
variable {C : Cx} {X : XP} {σ : St} {Q : V → St → Prop}
/-- sorted, of pairs with texts that are apart -/
theorem call_sortedP {o : Bool} {v : V} {ps : List (List Nat × Nat)} (k : IsL σ v (ps.map (pairT o))) (h64 : ps.length < 64) (hd : (ps.map (·.1)).Nodup)
    (h : ∀ qs : List (List Nat × Nat), qs.Perm ps → qs.Pairwise (fun a b => ltT b.1 a.1 = false) → Q (.lst (qs.map (pairT o))) σ) : CallV C (.builtin "sorted") [v] Q X σ := by
  refine CallV.toks fun z₀ zs z s xs hz hR r => ?_
  have rq := RepL.inv r; clear r; obtain ⟨_, _, rfl, r, t⟩ := rq
  cases t.inv0; clear t
  obtain ⟨a, items, rfl, hl, q⟩ := k.at r (Z.le_refl _) hR
  have hlen : items.length = ps.length := by rw [q.length, List.length_map]
  have hu := C.hunits
  have hi1 := in1_units C.A
  have hi2 := in1_units C.A.in1
  have gt : ∀ i, i < ps.length → Rep z (pairT o (ps.getD i ([], 0))) (items.getD i Value.none) := fun i hi => by
    obtain ⟨x, hx, rx⟩ := q.get (i := i) (v := pairT o ps[i]) (by simp [hi])
    rw [List.getD_eq_getElem?_getD, List.getD_eq_getElem?_getD, hx, List.getElem?_eq_getElem hi]
    exact rx
  have hm : ∀ i, i < ps.length → (ps.getD i ([], 0)).1 ∈ ps.map (·.1) := fun i hi => by
    rw [List.getD_eq_getElem?_getD, List.getElem?_eq_getElem hi]; exact List.mem_map_of_mem (List.getElem_mem _)
  refine sorted_any (κ := tuples' (Value.type (tyOf o) != Value.type "tuple")) (ρ := fun i => rankT (ps.map (·.1)) (ps.getD i ([], 0)).1) hl (by (first | lia | omega)) (fun h2 h1 hk Q' E' hq => ?_)
    (fun h1 hk i j C' hi hj hc => ?_) fun p h' b e hp ha hb hk hbo => ?_
  · obtain ⟨fs, f1, f2, f3⟩ := tups_of (h := h1) (fun b ob e => hk _ _ (hR.rh.hz _ _ e)) q
    exact kat_kind f1 (by (first | lia | omega)) (fun f hf => Looks.of_pure (f3 f hf)) (by cases o <;> rfl) hq
  · rw [hlen] at hi hj
    obtain ⟨a1, f1, t1, n1, e1, z1, r1⟩ := pair_rep (gt i hi)
    obtain ⟨a2, f2, t2, n2, e2, z2, r2⟩ := pair_rep (gt j hj)
    show wpAny _ _ (keyLt' _ _ _) _ _ _
    rw [e1, e2]
    refine kat_lt (hk _ _ (hR.rh.hz _ _ z1)) rfl (hk _ _ (hR.rh.hz _ _ z2)) rfl ?_
    show KatLex _ _ _ _ _ _ [(f1, f2), (.int ((ps.getD i ([], 0)).2 : Int) t1, .int ((ps.getD j ([], 0)).2 : Int) t2)] 0 _
    rw [rank_lt (hm i hi)] at hc
    refine kat_cons (EqAt.txt r1 r2 _ _ _ _ ?_)
    refine kat_go (fun c => kat_yes ?_) (fun c => kat_no ?_)
    · have c : (ps.getD i ([], 0)).1 = (ps.getD j ([], 0)).1 := by simpa using c
      have hij : i = j := by
        refine (List.getElem_inj (h₀ := by simpa using hi) (h₁ := by simpa using hj) hd).mp ?_
        rw [List.getD_eq_getElem?_getD, List.getD_eq_getElem?_getD, List.getElem?_eq_getElem hi, List.getElem?_eq_getElem hj] at c
        simpa using c
      subst hij
      refine kat_cons (EqAt.int_int _ _ _ _ _ _ _ _ ?_)
      rw [beq_self_eq_true]
      refine kat_yes (kat_nil ?_)
      rw [ltT_irrefl] at hc
      exact hc
    · have e0 : ((Value.type (tyOf o) != Value.type "tuple") && (0 == 0)) = true := by cases o <;> rfl
      rw [e0]
      exact oneLtT r1 r2 hc
  · rw [hlen] at hp ha
    have h1 := perm_out ps ([], 0) hp
    have h2 := sorted_pairwise ps ([], 0) (fun q => rankT (ps.map (·.1)) q.1) hp ha
    have R' := hR.grow (t := s.toks) hk
    have ap : Apart C zs σ b := hR.apart_new hb
    have R2 := R'.freeze hbo ap
    refine ⟨_, σ, Z.le_put R'.rh hbo, R2, .lst (((p.toList.map fun i => ps.getD i ([], 0)).map (pairT o))), .lst put_self ?_, h _ h1 ?_⟩
    · exact (rep_out (pairT o) ps ([], 0) q fun i hi => by
        have := (Array.Perm.mem_iff hp).mp (Array.mem_toList_iff.mp hi)
        simpa using this).mono (Z.le_put R'.rh hbo)
    · refine List.Pairwise.imp_of_mem (fun {a b} ha hb hab => ?_) h2
      have hb' := h1.mem_iff.mp hb
      rw [← rank_lt (List.mem_map_of_mem hb')]
      exact decide_eq_false (Nat.not_lt.mpr hab)
end
/-- what is sorted is told by what is in it -/
theorem sorted_uniq {α : Type} (f : α → List Nat) : ∀ {l m : List α}, (∀ a ∈ l, ∀ b ∈ l, f a = f b → a = b) → l.Perm m → l.Pairwise (fun a b => ltT (f b) (f a) = false) → m.Pairwise (fun a b => ltT (f b) (f a) = false) → l = m
  | [], m, _, h, _, _ => by rw [List.Perm.nil_eq h]
  | x :: l, [], _, h, _, _ => by simpa using h.length_eq
  | x :: l, y :: m, hf, h, h1, h2 => by
    rw [List.pairwise_cons] at h1 h2
    have e : x = y := by
      rcases List.mem_cons.mp (h.mem_iff.mp (List.mem_cons_self (a := x) (l := l))) with e | e
      · exact e
      · rcases List.mem_cons.mp (h.mem_iff.mpr (List.mem_cons_self (a := y) (l := m))) with e' | e'
        · exact e'.symm
        · exact hf _ (by simp) _ (List.mem_cons_of_mem _ e') (ltT_conn (h2.1 x e) (h1.1 y e'))
    subst e
    rw [sorted_uniq f (fun a ha b hb => hf a (List.mem_cons_of_mem _ ha) b (List.mem_cons_of_mem _ hb)) ((List.perm_cons _).mp h) h1.2 h2.2]
end PL

end
section
open PySem PySem.Calls PyProof.Rows PySem.SeqAt
set_option Elab.async false
set_option linter.unusedVariables false
set_option maxHeartbeats 4000000
namespace PL
theorem RepL.lastMap {z : Z} {v w : V} (h : ∀ x, Rep z v x → Rep z w x) : ∀ {vs : List V} {xs : List Value}, RepL z (vs ++ [v]) xs → RepL z (vs ++ [w]) xs := by
  intro vs
  induction vs with
  | nil =>
    intro xs r
    obtain ⟨x, _, rfl, r1, t⟩ := RepL.inv r
    exact .cons (h x r1) t
  | cons u vs ih =>
    intro xs r
    obtain ⟨x, _, rfl, r1, t⟩ := RepL.inv r
    exact .cons r1 (ih t)
theorem rep_inner {z : Z} {u w : V} {a : Addr} (h : Rep z w (.ref a)) (x : Value) (r : Rep z (.lst [u, .ref a]) x) : Rep z (.lst [u, w]) x := by
  obtain ⟨b, items, n, rfl, e, rl⟩ := r.e
  refine .lst e (RepL.lastMap (vs := [u]) (v := .ref a) (fun y ry => ?_) rl)
  obtain ⟨_, rfl⟩ := ry.e
  exact h
section
variable {C : Cx} {X : XP} {σ : St} {Q : V → St → Prop}
theorem R.freezeIn2 {zs z : Z} {s : Shared} {L : List (Str × V)} {H : Led} {a b : Addr} {u : V} {cur vs : List V} (hR : R C zs ⟨L, (b, .list (vs ++ [.lst [u, .ref a]])) :: (a, .list cur) :: H⟩ z s) : ∃ z', Z.le z z' ∧ R C zs ⟨L, (b, .list (vs ++ [.lst [u, .lst cur]])) :: H⟩ z' s := by
  obtain ⟨z', l, R1, r⟩ := hR.freezeL (Rem.tail .head)
  obtain ⟨⟨items, n, e, rl⟩, _⟩ := R1.rh.hH _ List.mem_cons_self
  exact ⟨z', l, R1.upd (h' := s.heap) (t := s.toks) Upd.head (Heap.SameBut.refl b s.heap) ⟨items, n, e, rl.lastMap (rep_inner r)⟩⟩
/-- the inner list of the last pair is done -/
theorem TSs.freezeIn2 {st : List Stmt} {QF : Fl → St → Prop} {L : List (Str × V)} {H : Led} {a b : Addr} {u : V} {cur vs : List V} (h : TSs C st QF X ⟨L, (b, .list (vs ++ [.lst [u, .lst cur]])) :: H⟩) :
    TSs C st QF X ⟨L, (b, .list (vs ++ [.lst [u, .ref a]])) :: (a, .list cur) :: H⟩ := by
  intro z₀ zs z s hz hR
  obtain ⟨z', l, R2⟩ := hR.freezeIn2
  refine wpAny_mono (h z₀ zs z' s (Z.le_trans hz l) R2) ?_ fun _ _ x => PX.le l x
  rintro f s1 ⟨z1, σ1, l1, R2, q⟩
  exact ⟨z1, σ1, Z.le_trans l l1, R2, q⟩
/-- a slice, live -/
theorem Slc.listM {v : V} {vs : List V} {lo hi st : Option Int} (hl : IsL σ v vs) (hn : vs.length ≤ 16777216) (h0 : st ≠ some 0) (h : ∀ a, Q (.ref a) ⟨σ.loc, (a, .list (pick vs lo hi st)) :: σ.H⟩) : Slc C v lo hi st Q X σ := by
  intro value slice zs z s x a l u w hR rx hs pl pu pw
  obtain ⟨b, items, rfl, p, q⟩ := hl.at rx (Z.le_refl _) hR
  refine tail_of p.typeIs slot_list_getitem.lookup rfl ?_
  have hlen := q.length
  refine wpAny_getItem_list_slice p hs pl pu pw h0 ?_ (by rw [List.size_toArray, hlen]; exact size_ok hn)
  have hq := q.pick (sliceRange (sliceBounds lo hi st vs.length).1 (sliceBounds lo hi st vs.length).2.1 (sliceBounds lo hi st vs.length).2.2)
  have e : slicePick items.toArray lo hi st = ((sliceRange (sliceBounds lo hi st vs.length).1 (sliceBounds lo hi st vs.length).2.1 (sliceBounds lo hi st vs.length).2.2).filterMap (items[·]?)).toArray := by
    unfold slicePick
    rw [List.size_toArray, hlen]
    simp
  rw [e]
  exact CallV.fresh hR (t := s.toks) (n := 0) (fun b o e => Heap.get?_push_of_some _ e) (Heap.get?_push_size _ rfl) hq h
/-- where a text stands in a list of texts -/
theorem call_indexT {o : Bool} {v : V} {ps : List (List Nat)} {m : List Nat} {j : Nat} (k : IsL σ v (ps.map (.txt o))) (hn : ps.length ≤ 16777216) (hj : ps[j]? = some m) (hno : ∀ i : Nat, i < j → ps[i]? ≠ some m)
    (h : Q (.int (j : Int)) σ) : CallV C (.builtin "list.index") [v, .txt o m] Q X σ := by
  refine CallV.toks fun z₀ zs z s xs hz hR r => ?_
  have rq := RepL.inv r; clear r; obtain ⟨_, x, rfl, ry, t⟩ := rq
  have tq := RepL.inv t; clear t; obtain ⟨x, _, rfl, rx, t⟩ := tq
  cases t.inv0; clear t
  obtain ⟨a, items, n, rfl, pa, q⟩ := k.obj ry (Z.le_refl _) hR
  have hil : items.length = ps.length := by rw [q.length, List.length_map]
  have hjl := (List.getElem?_eq_some_iff.mp hj).1
  have getI : ∀ (i : Nat) (hm : i < items.toArray.size) p', ps[i]? = some p' → Rep z (.txt o p') items.toArray[i] := fun i hm p' e => by
    obtain ⟨y, e', ry⟩ := q.get (i := i) (v := .txt o p') (by rw [List.getElem?_map, e]; rfl)
    rw [List.getElem_toArray, (List.getElem?_eq_some_iff.mp e').2]; exact ry
  obtain ⟨h1, _⟩ := txtsAny rx q
  refine call_meets PySem.F.slot_list_index ⟨_, pa, rfl⟩ PySem.F.entry_list_index (PySem.F.args_list_index_2 _ _) (SeqAt.list_indexAt a items.toArray n none #[] x (isT o m) j (hil.symm ▸ hjl : j < items.length) (by (clear h1 getI q pa ry n a rx x hR hz s z zs z₀ h hno hj k v hil; (first | lia | omega))) (by rw [isT_at rx (getI j (by simpa [hil] using hjl) m hj)]; exact beq_self_eq_true _) (fun i hm hij => ?_))
    ⟨pa, fun y hy => isT_eq rx (h1 _ (List.mem_toArray.mp hy)), ?_⟩
  · have hm' : i < ps.length := hil ▸ hm
    rw [isT_at rx (getI i hm _ (List.getElem?_eq_getElem hm')), beq_eq_false_iff_ne]
    exact fun e => hno i hij (by rw [List.getElem?_eq_getElem hm', e])
  · exact PVal.toks hR (.int _ _) h
end
/-! one value, told twice -/
section
variable {z : Z} {A : Around} {s : Shared}
noncomputable abbrev SameAt (z : Z) (A : Around) (s : Shared) (v : V) : Prop := ∀ x y, Rep z v x → Rep z v y → EqAt A s x y true
theorem SameAt.txt {o : Bool} {l : List Nat} : SameAt z A s (.txt o l) := fun x y r q => by
  have := EqAt.txt (A := A) (s := s) r q
  rwa [beq_self_eq_true] at this
theorem SameAt.int {i : Int} : SameAt z A s (.int i) := fun x y r q => by
  obtain ⟨t, rfl⟩ := r.e
  obtain ⟨u, rfl⟩ := q.e
  have := EqAt.int_int (A := A) (s := s) i t i u
  rwa [beq_self_eq_true] at this
theorem same_items {vs : List V} {xs ys : List Value} (h : ∀ v ∈ vs, SameAt z A s v) (r : RepL z vs xs) (q : RepL z vs ys) (j : Nat) (h1 : j < xs.toArray.size) (h2 : j < ys.toArray.size) : EqAt A s xs.toArray[j] ys.toArray[j] true := by
  have hl : j < vs.length := by rw [← r.length]; simpa using h1
  obtain ⟨x, ex, rx⟩ := r.get (List.getElem?_eq_getElem hl)
  obtain ⟨y, ey, ry⟩ := q.get (List.getElem?_eq_getElem hl)
  rw [List.getElem_toArray, List.getElem_toArray, (List.getElem?_eq_some_iff.mp ex).2, (List.getElem?_eq_some_iff.mp ey).2]
  exact h _ (List.getElem_mem hl) x y rx ry
theorem all_true (n : Nat) : (List.range n).all (fun _ => true) = true := by simp
theorem SameAt.lst {vs : List V} (k : ∀ b o, z b = some o → s.heap.get? b = some o) (hu : A.units < cLine) (h : ∀ v ∈ vs, SameAt z A.in1 s v) : SameAt z A s (.lst vs) := fun x y r q => by
  obtain ⟨a, xs, n, rfl, e1, r1⟩ := r.e
  obtain ⟨b, ys, m, rfl, e2, q1⟩ := q.e
  by_cases hab : a = b
  · subst hab; exact EqAt.same _
  · refine EqAt.of_refs hab ?_
    have := RcAt.lists (e := fun _ => true) ⟨_, k _ _ e1, rfl, n, rfl⟩ ⟨_, k _ _ e2, rfl, m, rfl⟩ (by simp [r1.length, q1.length]) hu (same_items h r1 q1)
    rwa [all_true] at this
theorem tup_rc {vs : List V} {a b : Addr} {xs ys : List Value} {n m : Nat} (e1 : s.heap.get? a = some (tupO xs n)) (e2 : s.heap.get? b = some (tupO ys m)) (r1 : RepL z vs xs) (q1 : RepL z vs ys) (hu : A.units < cLine) (h : ∀ v ∈ vs, SameAt z A.in1 s v) : RcAt A s (.ref a) (.ref b) true := by
  have := RcAt.tuples (e := fun _ => true) (isTuple_of e1) (isTuple_of e2) hu (same_items h r1 q1)
  rw [all_true, List.size_toArray, List.size_toArray, r1.length, q1.length, beq_self_eq_true] at this
  exact this
theorem SameAt.tup {vs : List V} (k : ∀ b o, z b = some o → s.heap.get? b = some o) (hu : A.units < cLine) (h : ∀ v ∈ vs, SameAt z A.in1 s v) : SameAt z A s (.tup vs) := fun x y r q => by
  obtain ⟨a, xs, n, rfl, e1, r1⟩ := r.e
  obtain ⟨b, ys, m, rfl, e2, q1⟩ := q.e
  by_cases hab : a = b
  · subst hab; exact EqAt.same _
  · exact EqAt.of_refs hab (tup_rc (k _ _ e1) (k _ _ e2) r1 q1 hu h)
end
section
variable {C : Cx} {X : XP} {σ : St} {Q : V → St → Prop}
theorem Cmp.eqTup {vs : List V} (h : ∀ z zs s, R C zs σ z s → ∀ v ∈ vs, SameAt z C.A.in1 s v) (q : Q (.bool true) σ) : Cmp C .Eq (.tup vs) (.tup vs) Q X σ := by
  intro z₀ x y rx ry zs z s hz hR
  obtain ⟨a, xs, n, rfl, e1, r1⟩ := rep_tupO (rx.mono hz) hR
  obtain ⟨b, ys, m, rfl, e2, q1⟩ := rep_tupO (ry.mono hz) hR
  exact tup_rc e1 e2 r1 q1 C.units_lt (h z zs s hR) _ _ _ _ (PVal.same hR (.bool _) q)
end
end PL

end
open PySem PySem.Calls PyProof.Rows
set_option maxRecDepth 100000
set_option maxHeartbeats 4000000
local macro_rules
  | `(tactic| walk_at $s:str) => do
    let d := ("
pl lk=S
pl comp=r CompOK.mk d d d d d
pl kept=r Kept.biA|r Kept.tyA
pl w=R
pl le=? leA h h;r leAnd s _
pl fd=! Find.hit|! Find.hd|A Find.miss;w fd|A Find.tl;w fd
pl lo=r Lo.of k
pl lf=r lf_of k k
pl in=! BI.len|! BI.ord|! BI.chr|! BI.abs|! BI.min|! BI.max|! BI.sum|! BI.isinstance|! BI.issubclass|! BI.divmod|! BI.range|! BI.list|! BI.tuple|! BI.bytes|! BI.str|! BI.bool|! BI.type|! BI.bytearray
pl st=r In.stL a k|r In.stC a a k
pl sc=r Str1|r Str2|r Str3|r Str4|r Str5|r Str10|r Str11|r Str12
pl bc=r Byt1|r Byt2|r Byt3|r Byt4
pl nm=r TE.nameL a k lk _|r TE.nameC a k lk _|r TE.nameB a k a d in _
pl cb=r TE.callB a k a d in kept _
pl TE=? TE h n h h h;w nm|? TE h q h h h;r TE.cmp _|? TE h c h h h;w cb|! TE.const_int _|! TE.binop _|! TE.subsl _|! TE.sub _|! TE.str sc _|! TE.byt bc _|! TE.const_bool _|! TE.const_none _|! TE.unop _|! TE.ifexp _|! TE.tuple _|! TE.listF _
pl TS=! TS.assignR _ _ _;w st;x|A TS.augR;w st;w lk|? TS h g h h h;r TS.augSub _|! TS.exprR _ _;x|! TS.ret _|! TS.if_ _|! TS.cont _|! TS.brk _|! TS.pass _
pl op=! Bin.add_int _|! Bin.sub_int _|! Inp.add_int _|! Inp.sub_int _|! Un.neg_int _|! Cmp.lt_int _|! Cmp.gt_int _|! Cmp.le_int _|! Cmp.ge_int _|! Cmp.eq_int _|! Cmp.ne_int _|! Cmp.eq_bool _|! Cmp.ne_bool _|! Cmp.eq_txt _|! Cmp.ne_txt _|! Tru.bool _|! Tru.int _|! Tru.none _
pl e=? TE h h h h h;w TE|? TS h h h h h;w TS|! TArgs.consR _ _;x|? TB h h h h h;r TB.cmp _|! TArgs.nil _|! TOpt.none _|! TOpt.some _|! TB.not _|! TB.boolop _|! TBall.and_nil _|! TBall.or_nil _|! TBall.and_cons _|! TBall.or_cons _|! TSs.nil _|! TSs.cons _|? TB h h h h h;r TB.val _|w op|@".splitOn "\n").find? (·.startsWith (s.getString ++ "="))
    let some d := d | Lean.Macro.throwUnsupported
    let mut r ← `(tactic| fail)
    for a in ((d.splitOn "=").getD 1 "").splitOn "|" |>.reverse do
      let mut b ← `(tactic| skip)
      for m in a.splitOn ";" do
        let l := m.splitOn " "
        let as ← (l.drop 2).toArray.mapM fun a => match a with
          | "_" => `(?_)
          | "h" => `(_)
          | "a" => `(by assumption)
          | "k" => `(by kernel_rfl!)
          | "d" => `(by decide +kernel)
          | "s" => `(by simp)
          | "n" => `(.Name _ _)
          | "q" => `(.Compare _ _ _ _)
          | "c" => `(.Call (.Name _ _) _ _ _)
          | "g" => `(.AugAssign _ _ _ _)
          | a => `(by walk_at $(Lean.Syntax.mkStrLit ("pl " ++ a)))
        let f : Lean.Term := ⟨Lean.Syntax.mkApp (Lean.mkIdent (`PL ++ (l.getD 1 "").toName)) as⟩
        let c ← match l.headD "" with
          | "r" => `(tactic| refine $f)
          | "!" => `(tactic| with_reducible refine $f)
          | "?" => `(tactic| with_reducible show $f)
          | "A" => `(tactic| with_reducible apply $f)
          | "w" => `(tactic| walk_at $(Lean.Syntax.mkStrLit ("pl " ++ l.getD 1 "")))
          | "x" => `(tactic| exact rfl)
          | "S" => `(tactic| (show List.lookup (?x : PySem.Str) ?L = some ?v; haveI : PL.Find ?L ?x ?v := (by walk_at "pl fd"); kernel_rfl!))
          | "R" => `(tactic| repeat (first | walk_at "pl e" | walk_at "pl le"))
          | _ => `(tactic| refine ⟨_, rfl, ?_⟩)
        b ← `(tactic| ($b:tactic; $c:tactic))
      r ← `(tactic| first | $b:tactic | $r:tactic)
    return r

section
open PySem PySem.Calls PyProof.Rows
set_option Elab.async false
set_option linter.unusedVariables false
set_option linter.unusedSimpArgs false
set_option maxRecDepth 100000
set_option maxHeartbeats 4000000

namespace PL
noncomputable abbrev P9 := PySem.Challenge.pw_km0084_09
theorem pars9 : parsAt P9 9 = [("path" : Str)] := by kernel_rfl
theorem pars13 : parsAt P9 13 = [("path" : Str)] := by kernel_rfl
theorem pars14 : parsAt P9 14 = [("a" : Str)] := by kernel_rfl
theorem star14 : starAt P9 14 = ("p" : Str) := by kernel_rfl
theorem pars15 : parsAt P9 15 = [("p" : Str)] := by kernel_rfl
theorem pars16 : parsAt P9 16 = [("p" : Str)] := by kernel_rfl
theorem pars17 : parsAt P9 17 = [("path" : Str)] := by kernel_rfl
theorem pars18 : parsAt P9 18 = [("paths" : Str)] := by kernel_rfl
theorem fspath_ok {g : Gd} {a : Addr} (hf : Fn g P9 9 a) (hb : Free g BI) {o : Bool} {l : List Nat} {Q : V → Led → Prop} {X : XL} {H : Led} (h : Q (.txt o l) H) : CallT g (0 + 1) (.ref a) [.txt o l] Q X H := by
  obtain ⟨hm, fd, F⟩ := hf
  refine CallT.def_ F (by rw [pars9]; rfl) fun C hC hro => ?_
  rw [pars9]
  refine TSs.le start1 ?_
  refine TSs.cons ?_
  repeat (walk_at "pl e")
  refine call_type ?_
  repeat (walk_at "pl e")
  refine ⟨by simp, ?_⟩
  repeat (walk_at "pl e")
  refine call_issubclass_pair ?_
  repeat (walk_at "pl e")
  refine ite_t rfl ?_
  repeat (walk_at "pl e")
  exact h
theorem get_sep_ok {g : Gd} {a : Addr} (hf : Fn g P9 13 a) (hb : Free g BI) {o : Bool} {l : List Nat} {Q : V → Led → Prop} {X : XL} {H : Led} (h : Q (.txt o [47]) H) : CallT g (0 + 1) (.ref a) [.txt o l] Q X H := by
  obtain ⟨hm, fd, F⟩ := hf
  refine CallT.def_ F (by rw [pars13]; rfl) fun C hC hro => ?_
  rw [pars13]
  refine TSs.le start1 ?_
  refine TSs.cons ?_
  repeat (walk_at "pl e")
  refine call_isinstance_txt (p := true) ?_
  walk_at "pl e"
  cases o
  · refine ite_f (by decide) ?_
    repeat (walk_at "pl e")
    exact h
  · refine ite_t (by decide) ?_
    repeat (walk_at "pl e")
    exact h
theorem join_ok {g : Gd} {a b c : Addr} (hf : FnS g P9 14 a) (hf9 : Fn g P9 9 b) (hf11 : Fn g P9 13 c) (hb : Free g BI) {o : Bool} {l : List Nat} {bs : List (List Nat)} (hn : l.length + sumL bs + bs.length ≤ 1000000) {Q : V → Led → Prop} {X : XL} {H : Led}
    (h : Q (.txt o (joinP l bs)) H) : CallT g (1 + 1) (.ref a) (.txt o l :: bs.map (.txt o)) Q X H := by
  obtain ⟨hm, fd, F⟩ := hf
  refine CallT.defS F (by rw [pars14]; simp) (by rw [List.length_cons, List.length_map]; (first | lia | omega)) fun C hC hro => ?_
  rw [pars14, star14]
  rw [show (.txt o l :: bs.map (.txt o) : List V).drop [("a" : Str)].length = bs.map (.txt o) from rfl]
  refine TSs.le (startS (by decide +kernel)) ?_
  refine TSs.cons ?_
  repeat (walk_at "pl e")
  refine TE.callG hC hf9 (by kernel_rfl) (by kernel_rfl) ?_
  repeat (walk_at "pl e")
  refine CallV.fnI hC (fspath_ok hf9 hb ?_) (by decide)
  repeat (walk_at "pl e")
  refine TE.callG hC hf11 (by kernel_rfl) (by kernel_rfl) ?_
  repeat (walk_at "pl e")
  refine CallV.fnI hC (get_sep_ok hf11 hb ?_) (by decide)
  repeat (walk_at "pl e")
  refine TS.tryOK ?_
  refine TSs.cons ?_
  refine TS.for_ hC.calm ?_
  repeat (walk_at "pl e")
  refine ⟨_, _, Walk.tup, fun i σ => Le ⟨[("sep", .txt o [47]), ("path", .txt o (joinP l (bs.take i)))], H⟩ σ, ⟨by show Lo [("sep", .txt o [47]), ("path", .txt o l)] _; walk_at "pl lo", List.Sublist.refl _⟩, fun _ _ _ => trivial, ?_, ?_⟩
  · intro i u σ hu hle
    rw [List.getElem?_map] at hu
    obtain ⟨x, hxi, rfl⟩ : ∃ x, bs[i]? = some x ∧ u = .txt o x := by
      cases e : bs[i]? with
      | none => rw [e] at hu; cases hu
      | some c => rw [e] at hu; cases hu; exact ⟨c, rfl, rfl⟩
    refine TAs.name (by walk_at "pl st") ?_
    refine TSs.le hle.both ?_
    have nx := joinP_take (a := l) hxi
    have hlen := joinP_len (bs.take i) l
    have h2 := sumL_take bs i
    have h3 : (bs.take i).length ≤ bs.length := List.length_take_le' i bs
    have h4 := sumL_mem (List.mem_of_getElem? hxi)
    generalize joinP l (bs.take i) = w at nx hlen ⊢
    refine TSs.cons ?_
    repeat (walk_at "pl e")
    refine TE.callG hC hf9 (by kernel_rfl) (by kernel_rfl) ?_
    repeat (walk_at "pl e")
    refine CallV.fnI hC (fspath_ok hf9 hb ?_) (by decide)
    have fin : ∀ {v : List Nat} {σ' : St}, jn1 w x = v → Le ⟨[("sep", .txt o [47]), ("path", .txt o v)], H⟩ σ' → Le ⟨[("sep", .txt o [47]), ("path", .txt o (joinP l (bs.take (i + 1))))], H⟩ σ' := fun e q => by rw [nx, e]; exact q
    unfold jn1 at fin
    refine TSs.cons ?_
    refine TS.if_ ?_
    refine TB.cut (P := fun t σ' => t = decide (headIs 47 x = true ∨ w = []) ∧ Le ⟨[("sep", .txt o [47]), ("path", .txt o w), ("b", .txt o x)], H⟩ σ') ?_ ?_
    · repeat (walk_at "pl e")
      refine TE.startswith o ?_
      repeat (walk_at "pl e")
      refine ite_b (fun c1 => ?_) (fun c1 => ?_)
      · exact ⟨by simp [c1], by walk_at "pl lo", List.Sublist.refl _⟩
      · repeat (walk_at "pl e")
        refine Tru.txt (by (first | lia | omega)) ?_
        by_cases c2 : w = []
        · refine ite_t (by simp [c2]) ?_
          exact ⟨by simp [c2], by walk_at "pl lo", List.Sublist.refl _⟩
        · refine ite_f (by simp [c2]) ?_
          repeat (walk_at "pl e")
          exact ⟨by simp [c1, c2], by walk_at "pl lo", List.Sublist.refl _⟩
    rintro _ σ' ⟨rfl, hle'⟩
    refine ite_b (fun c1 => ?_) (fun c1 => ?_)
    · have c1 : headIs 47 x = true ∨ w = [] := of_decide_eq_true c1
      refine TSs.le hle' ?_
      repeat (walk_at "pl e")
      exact fin (if_pos c1) ⟨by walk_at "pl lo", List.Sublist.refl _⟩
    · have c1 : ¬ (headIs 47 x = true ∨ w = []) := fun q => c1 (decide_eq_true q)
      refine TSs.le hle' ?_
      refine TSs.cons ?_
      refine TS.if_ ?_
      refine TB.val ?_
      refine TE.endswith o ?_
      repeat (walk_at "pl e")
      refine ite_b (fun c2 => ?_) (fun c2 => ?_)
      · repeat (walk_at "pl e")
        refine Inp.add_txt (by (first | lia | omega)) ?_
        repeat (walk_at "pl e")
        exact fin (by rw [if_neg c1, if_pos c2]) ⟨by walk_at "pl lo", List.Sublist.refl _⟩
      · repeat (walk_at "pl e")
        refine Bin.add_txt (by rw [List.length_singleton]; (first | lia | omega)) ?_
        refine Inp.add_txt (by rw [List.length_append, List.length_singleton]; (first | lia | omega)) ?_
        repeat (walk_at "pl e")
        exact fin (by rw [if_neg c1, if_neg c2]) ⟨by walk_at "pl lo", List.Sublist.refl _⟩
  · intro σ hle
    rw [List.length_map, List.take_of_length_le (Nat.le_refl _)] at hle
    refine TSs.nil ?_
    refine TSs.nil ?_
    refine TSs.le hle ?_
    repeat (walk_at "pl e")
    exact h
theorem splitroot_ok {g : Gd} {a b : Addr} (hf : Fn g P9 15 a) (hf9 : Fn g P9 9 b) (hb : Free g BI) {o : Bool} {l : List Nat} (hn : l.length ≤ 1000000) {Q : V → Led → Prop} {X : XL} {H : Led}
    (h : Q (.tup [.txt o [], .txt o (List.replicate (rootN l) 47), .txt o (l.drop (rootN l))]) H) : CallT g (1 + 1) (.ref a) [.txt o l] Q X H := by
  obtain ⟨hm, fd, F⟩ := hf
  refine CallT.def_ F (by rw [pars15]; rfl) fun C hC hro => ?_
  rw [pars15]
  refine TSs.le start1 ?_
  refine TSs.cons ?_
  repeat (walk_at "pl e")
  refine TE.callG hC hf9 (by kernel_rfl) (by kernel_rfl) ?_
  repeat (walk_at "pl e")
  refine CallV.fnI hC (fspath_ok hf9 hb ?_) (by decide)
  refine TSs.cons ?_
  refine TS.cut (P := fun f σ' => f = .next ∧ Le ⟨[("p", .txt o l), ("sep", .txt o [47]), ("empty", .txt o [])], H⟩ σ') ?_ ?_
  · repeat (walk_at "pl e")
    refine call_isinstance_txt (p := true) ?_
    walk_at "pl e"
    cases o
    · refine ite_f (by decide) ?_
      repeat (walk_at "pl e")
      exact ⟨rfl, by walk_at "pl lo", List.Sublist.refl _⟩
    · refine ite_t (by decide) ?_
      repeat (walk_at "pl e")
      exact ⟨rfl, by walk_at "pl lo", List.Sublist.refl _⟩
  rintro _ σ' ⟨rfl, hle⟩
  refine TSs.le hle ?_
  clear hle σ'
  have tk := rootN_take l
  unfold rootN at h tk
  refine TSs.cons ?_
  repeat (walk_at "pl e")
  refine Slc.txt (by (first | lia | omega)) ?_
  rw [sl_toL l 1 1 rfl]
  repeat (walk_at "pl e")
  refine ite_b (fun c1 => ?_) (fun c1 => ?_)
  · repeat (walk_at "pl e")
    refine ⟨by simp, ?_⟩
    rw [if_neg (by simpa using c1)] at h
    exact h
  · have c1 : l.take 1 = [47] := by simpa using c1
    rw [if_pos c1] at h tk
    repeat (walk_at "pl e")
    refine Slc.txt (by (first | lia | omega)) ?_
    rw [sl_12 l 1 2 1 rfl rfl]
    repeat (walk_at "pl e")
    refine ite_b (fun c2 => ?_) (fun c2 => ?_)
    · repeat (walk_at "pl e")
      refine ite_t rfl ?_
      repeat (walk_at "pl e")
      refine Slc.txt (by (first | lia | omega)) ?_
      rw [sl_fromL l 1 1 rfl]
      repeat (walk_at "pl e")
      refine ⟨by simp, ?_⟩
      rw [if_neg (fun e => (by simpa using c2 : ¬ _) e.1)] at h
      exact h
    · have c2 : (l.drop 1).take 1 = [47] := by simpa using c2
      repeat (walk_at "pl e")
      refine Slc.txt (by (first | lia | omega)) ?_
      rw [sl_12 l 2 3 2 rfl rfl]
      repeat (walk_at "pl e")
      refine ite_b (fun c3 => ?_) (fun c3 => ?_)
      · repeat (walk_at "pl e")
        refine ite_t rfl ?_
        repeat (walk_at "pl e")
        refine Slc.txt (by (first | lia | omega)) ?_
        rw [sl_fromL l 1 1 rfl]
        repeat (walk_at "pl e")
        refine ⟨by simp, ?_⟩
        rw [if_neg (fun e => e.2 (by simpa using c3))] at h
        exact h
      · repeat (walk_at "pl e")
        refine ite_f (by decide) ?_
        repeat (walk_at "pl e")
        refine Slc.txt (by (first | lia | omega)) ?_
        rw [sl_toL l 2 2 rfl]
        repeat (walk_at "pl e")
        refine Slc.txt (by (first | lia | omega)) ?_
        rw [sl_fromL l 2 2 rfl]
        repeat (walk_at "pl e")
        refine ⟨by simp, ?_⟩
        have c3 : ¬ (l.drop 2).take 1 = [47] := by simpa using c3
        rw [if_pos ⟨c2, c3⟩] at h tk
        rw [tk]
        exact h
theorem dirname_ok {g : Gd} {a b c : Addr} (hf : Fn g P9 16 a) (hf9 : Fn g P9 9 b) (hf11 : Fn g P9 13 c) (hb : Free g BI) {o : Bool} {l : List Nat} (hn : l.length ≤ 1000000) {Q : V → Led → Prop} {X : XL} {H : Led}
    (h : Q (.txt o (dirS l)) H) : CallT g (1 + 1) (.ref a) [.txt o l] Q X H := by
  obtain ⟨hm, fd, F⟩ := hf
  refine CallT.def_ F (by rw [pars16]; rfl) fun C hC hro => ?_
  rw [pars16]
  refine TSs.le start1 ?_
  refine TSs.cons ?_
  repeat (walk_at "pl e")
  refine TE.callG hC hf9 (by kernel_rfl) (by kernel_rfl) ?_
  repeat (walk_at "pl e")
  refine CallV.fnI hC (fspath_ok hf9 hb ?_) (by decide)
  repeat (walk_at "pl e")
  refine TE.callG hC hf11 (by kernel_rfl) (by kernel_rfl) ?_
  repeat (walk_at "pl e")
  refine CallV.fnI hC (get_sep_ok hf11 hb ?_) (by decide)
  repeat (walk_at "pl e")
  refine TE.rfind o ?_
  repeat (walk_at "pl e")
  refine Slc.txt (by (first | lia | omega)) ?_
  rw [Int.sub_add_cancel, sl_to]
  have hlen : (l.take (cut 47 l)).length ≤ l.length := by rw [List.length_take]; (first | lia | omega)
  unfold dirS at h
  generalize l.take (cut 47 l) = hd at h hlen
  repeat (walk_at "pl e")
  refine Tru.txt (by (first | lia | omega)) ?_
  refine ite_b (fun c1 => ?_) (fun c1 => ?_)
  · repeat (walk_at "pl e")
    refine call_len_txt (by (first | lia | omega)) ?_
    refine Bin.mul_txt (by (first | lia | omega)) (by (first | lia | omega)) ?_
    repeat (walk_at "pl e")
    refine ite_b (fun c2 => ?_) (fun c2 => ?_)
    · repeat (walk_at "pl e")
      refine ite_t rfl ?_
      repeat (walk_at "pl e")
      refine TE.rstrip o ?_
      repeat (walk_at "pl e")
      refine ⟨by (first | lia | omega), ?_⟩
      repeat (walk_at "pl e")
      rw [if_pos] at h
      · exact h
      · exact ⟨by simpa using c1, by simpa using c2⟩
    · repeat (walk_at "pl e")
      refine ite_f (by decide) ?_
      repeat (walk_at "pl e")
      rw [if_neg] at h
      · exact h
      · exact fun ⟨_, e⟩ => c2 (by simpa using e)
  · repeat (walk_at "pl e")
    refine ite_f (by decide) ?_
    repeat (walk_at "pl e")
    rw [if_neg] at h
    · exact h
    · exact fun ⟨e, _⟩ => c1 (by simpa using e)
theorem normpath_ok {g : Gd} {a b c : Addr} (hf : Fn g P9 17 a) (hf9 : Fn g P9 9 b) (hf11 : Fn g P9 15 c) (hb : Free g BI) {o : Bool} {l : List Nat} (hn : l.length ≤ 1000000) {Q : V → Led → Prop} {X : XL} {H : Led}
    (h : ∀ H', H.Sublist H' → Q (.txt o (normS l)) H') : CallT g (2 + 1) (.ref a) [.txt o l] Q X H := by
  obtain ⟨hm, fd, F⟩ := hf
  refine CallT.def_ F (by rw [pars17]; rfl) fun C hC hro => ?_
  rw [pars17]
  refine TSs.le start1 ?_
  refine TSs.cons ?_
  repeat (walk_at "pl e")
  refine TE.callG hC hf9 (by kernel_rfl) (by kernel_rfl) ?_
  repeat (walk_at "pl e")
  refine CallV.fnI hC (fspath_ok hf9 hb ?_) (by decide)
  refine TSs.cons ?_
  refine TS.cut (P := fun f σ' => f = .next ∧ Le ⟨[("path", .txt o l), ("sep", .txt o [47]), ("dot", .txt o [46]), ("dotdot", .txt o [46, 46])], H⟩ σ') ?_ ?_
  · repeat (walk_at "pl e")
    refine call_isinstance_txt (p := true) ?_
    walk_at "pl e"
    cases o
    · refine ite_f (by decide) ?_
      repeat (walk_at "pl e")
      exact ⟨rfl, by walk_at "pl lo", List.Sublist.refl _⟩
    · refine ite_t (by decide) ?_
      repeat (walk_at "pl e")
      exact ⟨rfl, by walk_at "pl lo", List.Sublist.refl _⟩
  rintro _ σ' ⟨rfl, hle⟩
  refine TSs.le hle ?_
  clear hle σ'
  refine TSs.cons ?_
  repeat (walk_at "pl e")
  refine Tru.txt (by (first | lia | omega)) ?_
  unfold normS at h
  refine ite_b (fun c1 => ?_) (fun c1 => ?_)
  · have c1 : l = [] := by simpa using c1
    repeat (walk_at "pl e")
    rw [if_pos c1] at h
    exact h _ (List.Sublist.refl _)
  have c1 : l ≠ [] := by simpa using c1
  rw [if_neg c1] at h
  have hr := rootN_le l
  have hsplit := splitS_sum 47 (l.drop (rootN l))
  have hslen := splitS_length 47 (l.drop (rootN l))
  have hspart : ∀ p ∈ splitS 47 (l.drop (rootN l)), p.length ≤ l.length := fun p hp => Nat.le_trans (splitS_part_length hp) (by rw [List.length_drop]; (first | lia | omega))
  have hdl : (l.drop (rootN l)).length ≤ l.length := by rw [List.length_drop]; (first | lia | omega)
  have hbnd := fun m => fold_bounds (rootN l) ((splitS 47 (l.drop (rootN l))).take m) []
  refine TSs.nil ?_
  refine TSs.cons ?_
  refine TS.assignTo ?_
  refine TE.callG hC hf11 (by kernel_rfl) (by kernel_rfl) ?_
  repeat (walk_at "pl e")
  refine CallV.fnI hC (splitroot_ok hf11 hf9 hb (by (first | lia | omega)) ?_) (by decide)
  refine TAs.tuple hC.calm rfl ?_
  refine TIn.cons (TAs.name (by walk_at "pl st") ?_)
  refine TIn.cons (TAs.name (by walk_at "pl st") ?_)
  refine TIn.cons (TAs.name (by walk_at "pl st") ?_)
  refine TIn.nil ?_
  refine TSs.cons ?_
  refine TS.assign (by walk_at "pl st") ?_
  refine TE.split o ?_
  repeat (walk_at "pl e")
  refine ⟨by (first | lia | omega), ?_⟩
  refine TSs.cons ?_
  refine TS.assign (by walk_at "pl st") ?_
  refine TE.listM ?_
  refine TArgs.nil ⟨by simp, fun aN => ?_⟩
  generalize hcs : splitS 47 (l.drop (rootN l)) = cs at *
  generalize rootN l = r at *
  refine TSs.cons ?_
  refine TS.for_ hC.calm ?_
  repeat (walk_at "pl e")
  refine ⟨_, _, Walk.lst, fun i σ => Le ⟨[("sep", .txt o [47]), ("dot", .txt o [46]), ("dotdot", .txt o [46, 46]), ("initial_slashes", .txt o (List.replicate r 47)), ("new_comps", .ref aN)], (aN, .list ((normC r (cs.take i)).map (.txt o))) :: H⟩ σ,
    ⟨by walk_at "pl lo", List.Sublist.refl _⟩, fun _ _ _ => trivial, ?_, ?_⟩
  · intro i u σ hu hle
    rw [List.getElem?_map] at hu
    obtain ⟨c, hc, rfl⟩ : ∃ c, cs[i]? = some c ∧ u = .txt o c := by
      cases e : cs[i]? with
      | none => rw [e] at hu; cases hu
      | some c => rw [e] at hu; cases hu; exact ⟨c, rfl, rfl⟩
    refine TAs.name (by walk_at "pl st") ?_
    refine TSs.le hle.both ?_
    have nx := normC_take (r := r) hc
    have hclen := hspart c (List.mem_of_getElem? hc)
    have hacc := (hbnd i).1
    rw [List.length_nil, Nat.zero_add] at hacc
    have hacc2 : (cs.take i).length ≤ cs.length := List.length_take_le' i cs
    rw [show (cs.take i).foldl (stepN r) [] = normC r (cs.take i) from rfl] at hacc
    generalize normC r (cs.take i) = acc at hacc nx ⊢
    refine TSs.cons ?_
    refine TS.if_ ?_
    refine TB.cut (P := fun bb σ' => bb = decide (c = [] ∨ c = [46]) ∧ σ' = ⟨setL [("sep", .txt o [47]), ("dot", .txt o [46]), ("dotdot", .txt o [46, 46]), ("initial_slashes", .txt o (List.replicate r 47)), ("new_comps", .ref aN)] "comp" (.txt o c), (aN, .list (acc.map (.txt o))) :: H⟩) ?_ ?_
    · repeat (walk_at "pl e")
      refine Tru.txt (by (first | lia | omega)) ?_
      refine ite_b (fun c2 => ?_) (fun c2 => ?_)
      · have c2 : c = [] := by simpa using c2
        exact ⟨by simp [c2], rfl⟩
      · have c2 : c ≠ [] := by simpa using c2
        repeat (walk_at "pl e")
        refine ite_b (fun c3 => ?_) (fun c3 => ?_)
        · have c3 : c = [46] := by simpa using c3
          exact ⟨by simp [c3], rfl⟩
        · have c3 : c ≠ [46] := by simpa using c3
          repeat (walk_at "pl e")
          exact ⟨by simp [c2, c3], rfl⟩
    rintro _ _ ⟨rfl, rfl⟩
    refine ite_b (fun c2 => ?_) (fun c2 => ?_)
    · have c2 : c = [] ∨ c = [46] := by simpa using c2
      repeat (walk_at "pl e")
      refine ⟨by walk_at "pl lo", ?_⟩
      show List.Sublist ((aN, AO.list ((normC r (cs.take (i + 1))).map (.txt o))) :: H) _
      rw [nx]
      unfold stepN
      rw [if_pos c2]
      exact List.Sublist.refl _
    have c2 : ¬ (c = [] ∨ c = [46]) := by simpa using c2
    refine TSs.nil ?_
    refine TSs.cons ?_
    refine TS.if_ ?_
    refine TB.cut (P := fun bb σ' => bb = decide (c ≠ [46, 46] ∨ (r = 0 ∧ acc = []) ∨ (acc ≠ [] ∧ acc[acc.length - 1]? = some [46, 46])) ∧ σ' = ⟨setL [("sep", .txt o [47]), ("dot", .txt o [46]), ("dotdot", .txt o [46, 46]), ("initial_slashes", .txt o (List.replicate r 47)), ("new_comps", .ref aN)] "comp" (.txt o c), (aN, .list (acc.map (.txt o))) :: H⟩) ?_ ?_
    · repeat (walk_at "pl e")
      refine ite_b (fun c3 => ?_) (fun c3 => ?_)
      · have c3 : c ≠ [46, 46] := by simpa using c3
        exact ⟨by simp [c3], rfl⟩
      have c3 : c = [46, 46] := by simpa using c3
      repeat (walk_at "pl e")
      refine Tru.txt (by rw [List.length_replicate]; (first | lia | omega)) ?_
      refine ite_b (fun c4 => ?_) (fun c4 => ?_)
      · have c4 : r = 0 := by
          cases r with
          | zero => rfl
          | succ r => simp [List.replicate_succ] at c4
        repeat (walk_at "pl e")
        refine Tru.list (.mt List.mem_cons_self) (by rw [List.length_map]; (first | lia | omega)) ?_
        refine ite_b (fun c5 => ?_) (fun c5 => ?_)
        · have c5 : acc = [] := by simpa using c5
          repeat (walk_at "pl e")
          refine ite_t rfl ?_
          exact ⟨by simp [c4, c5], rfl⟩
        · have c5 : acc ≠ [] := by simpa using c5
          have hl : acc.length - 1 < acc.length := by have := List.length_pos_iff.mpr c5; (first | lia | omega)
          have hg : (acc.map (V.txt o))[acc.length - 1]? = some (.txt o acc[acc.length - 1]) := by rw [List.getElem?_map, List.getElem?_eq_getElem hl]; rfl
          repeat (walk_at "pl e")
          refine ite_f (by decide) ?_
          repeat (walk_at "pl e")
          refine Tru.list (.mt List.mem_cons_self) (by rw [List.length_map]; (first | lia | omega)) ?_
          refine ite_t (by simp [c5]) ?_
          repeat (walk_at "pl e")
          refine Item.list (.mt List.mem_cons_self) (by rw [List.length_map]; (first | lia | omega)) ⟨by rw [if_pos (by decide), List.length_map]; (first | lia | omega), by rw [List.length_map]; exact hl⟩ hg ?_
          repeat (walk_at "pl e")
          refine ite_b (fun c7 => ?_) (fun c7 => ?_)
          · have c7 : acc[acc.length - 1] = [46, 46] := by simpa using c7
            repeat (walk_at "pl e")
            refine ite_t rfl ?_
            exact ⟨by rw [List.getElem?_eq_getElem hl, c7]; simp [c5], rfl⟩
          · have c7 : ¬ acc[acc.length - 1] = [46, 46] := by simpa using c7
            refine ite_f (by decide) ?_
            repeat (walk_at "pl e")
            exact ⟨by rw [List.getElem?_eq_getElem hl]; simp [c3, c5, c7], rfl⟩
      · have c4 : r ≠ 0 := by
          intro e; subst e; simp at c4
        refine ite_f (by decide) ?_
        by_cases c5 : acc = []
        · repeat (walk_at "pl e")
          refine Tru.list (.mt List.mem_cons_self) (by rw [List.length_map]; (first | lia | omega)) ?_
          refine ite_f (by simp [c5]) ?_
          refine ite_f (by decide) ?_
          repeat (walk_at "pl e")
          exact ⟨by simp [c3, c4, c5], rfl⟩
        · have hl : acc.length - 1 < acc.length := by have := List.length_pos_iff.mpr c5; (first | lia | omega)
          have hg : (acc.map (V.txt o))[acc.length - 1]? = some (.txt o acc[acc.length - 1]) := by rw [List.getElem?_map, List.getElem?_eq_getElem hl]; rfl
          repeat (walk_at "pl e")
          repeat (walk_at "pl e")
          refine Tru.list (.mt List.mem_cons_self) (by rw [List.length_map]; (first | lia | omega)) ?_
          refine ite_t (by simp [c5]) ?_
          repeat (walk_at "pl e")
          refine Item.list (.mt List.mem_cons_self) (by rw [List.length_map]; (first | lia | omega)) ⟨by rw [if_pos (by decide), List.length_map]; (first | lia | omega), by rw [List.length_map]; exact hl⟩ hg ?_
          repeat (walk_at "pl e")
          refine ite_b (fun c7 => ?_) (fun c7 => ?_)
          · have c7 : acc[acc.length - 1] = [46, 46] := by simpa using c7
            repeat (walk_at "pl e")
            refine ite_t rfl ?_
            exact ⟨by rw [List.getElem?_eq_getElem hl, c7]; simp [c5], rfl⟩
          · have c7 : ¬ acc[acc.length - 1] = [46, 46] := by simpa using c7
            refine ite_f (by decide) ?_
            repeat (walk_at "pl e")
            exact ⟨by rw [List.getElem?_eq_getElem hl]; simp [c3, c5, c7], rfl⟩
    rintro _ _ ⟨rfl, rfl⟩
    refine ite_b (fun c3 => ?_) (fun c3 => ?_)
    · have c3 : c ≠ [46, 46] ∨ (r = 0 ∧ acc = []) ∨ (acc ≠ [] ∧ acc[acc.length - 1]? = some [46, 46]) := of_decide_eq_true c3
      refine TSs.cons ?_
      refine TS.expr ?_
      refine TE.appendM ?_
      repeat (walk_at "pl e")
      refine ⟨aN, _, rfl, List.mem_cons_self, ?_⟩
      repeat (walk_at "pl e")
      refine ⟨_, acc.map (.txt o), _, rfl, .head, by rw [List.length_map]; (first | lia | omega), ?_⟩
      repeat (walk_at "pl e")
      refine ⟨by walk_at "pl lo", ?_⟩
      show List.Sublist ((aN, AO.list ((normC r (cs.take (i + 1))).map (.txt o))) :: H) _
      rw [nx]
      unfold stepN
      rw [if_neg c2, if_pos c3, List.map_append]
      exact List.Sublist.refl _
    · have c3 : ¬ (c ≠ [46, 46] ∨ (r = 0 ∧ acc = []) ∨ (acc ≠ [] ∧ acc[acc.length - 1]? = some [46, 46])) := of_decide_eq_false (by simpa using c3)
      repeat (walk_at "pl e")
      refine Tru.list (.mt List.mem_cons_self) (by rw [List.length_map]; (first | lia | omega)) ?_
      unfold stepN at nx
      rw [if_neg c2, if_neg c3] at nx
      by_cases c5 : acc = []
      · refine ite_f (by simp [c5]) ?_
        repeat (walk_at "pl e")
        refine ⟨by walk_at "pl lo", ?_⟩
        show List.Sublist ((aN, AO.list ((normC r (cs.take (i + 1))).map (.txt o))) :: H) _
        rw [nx, c5]; exact List.Sublist.refl _
      · refine ite_t (by simp [c5]) ?_
        refine TSs.cons ?_
        refine TS.expr ?_
        refine TE.popM ?_
        repeat (walk_at "pl e")
        have hl : acc.length - 1 < acc.length := by have := List.length_pos_iff.mpr c5; (first | lia | omega)
        refine ⟨aN, acc.map (.txt o), .txt o acc[acc.length - 1], _, rfl, .head, by rw [List.length_map]; (first | lia | omega), by rw [List.length_map, List.getElem?_map, List.getElem?_eq_getElem hl]; rfl, ?_⟩
        repeat (walk_at "pl e")
        refine ⟨by walk_at "pl lo", ?_⟩
        show List.Sublist ((aN, AO.list ((normC r (cs.take (i + 1))).map (.txt o))) :: H) _
        rw [nx, List.map_dropLast]
        exact List.Sublist.refl _
  · intro σ hle
    refine TSs.le hle ?_
    rw [List.length_map, List.take_of_length_le (Nat.le_refl _)]
    have hfin := hbnd cs.length
    rw [List.take_of_length_le (Nat.le_refl _), show cs.foldl (stepN r) [] = normC r cs from rfl] at hfin
    obtain ⟨hf1, hf2⟩ := hfin
    rw [List.length_nil, Nat.zero_add] at hf1
    rw [show sumL [] = 0 from rfl, Nat.zero_add] at hf2
    refine TSs.nil ?_
    refine TSs.cons ?_
    repeat (walk_at "pl e")
    refine TE.join o ?_
    repeat (walk_at "pl e")
    have hj : (joinS [47] (normC r cs)).length ≤ 3000000 := by
      rw [joinS_length]
      have : sumL (normC r cs) = ((normC r cs).map List.length).sum := rfl
      simp only [List.length_singleton]
      (first | lia | omega)
    refine ⟨_, normC r cs, rfl, .mt List.mem_cons_self, ?_, ?_⟩
    · have : sumL (normC r cs) = ((normC r cs).map List.length).sum := rfl
      simp only [List.length_singleton]
      (first | lia | omega)
    refine Bin.add_txt (by rw [List.length_replicate]; (first | lia | omega)) ?_
    have h := h ((aN, AO.list ((normC r cs).map (.txt o))) :: H) (List.sublist_cons_self _ H)
    dsimp only at h
    generalize hpath : List.replicate r 47 ++ joinS [47] (normC r cs) = path at *
    have hpl : path.length ≤ 3000002 := by rw [← hpath, List.length_append, List.length_replicate]; (first | lia | omega)
    repeat (walk_at "pl e")
    refine TE.boolop ?_
    refine TEb.or_cons ?_
    repeat (walk_at "pl e")
    refine Tru.txt (by (first | lia | omega)) ?_
    refine ite_b (fun c6 => ?_) (fun c6 => ?_)
    · have c6 : path ≠ [] := by simpa using c6
      rw [if_neg c6] at h
      exact h
    · have c6 : path = [] := by simpa using c6
      refine TEb.one ?_
      repeat (walk_at "pl e")
      rw [if_pos c6] at h
      exact h
theorem commonpath_okR {g : Gd} {a b : Addr} (hf : Fn g P9 18 a) (hf9 : Fn g P9 9 b) (hb : Free g BI) {o : Bool} {ps : List (List Nat)} (h0 : ps ≠ []) (hn : ps.length ≤ 1000) (hm : ∀ p ∈ ps, p.length ≤ 10000) {Q : V → Led → Prop} {X : XL} {H : Led}
    (hsame : ∀ p ∈ ps, headIs 47 p = headIs 47 (ps.headD [])) (h : ∀ H', H.Sublist H' → Q (.txt o (cpS ps)) H') : CallT g (2 + 1) (.ref a) [.lst (ps.map (.txt o))] Q X H := by
  obtain ⟨hmg, fd, F⟩ := hf
  refine CallT.def_ F (by rw [pars18]; rfl) fun C hC hro => ?_
  rw [pars18]
  refine TSs.le start1 ?_
  refine TSs.cons ?_
  refine TS.assign (by walk_at "pl st") ?_
  refine TE.tupleMap hC hb (by kernel_rfl) (by kernel_rfl) ?_
  refine TArgs.cons (TE.nameF hC hf9 (by kernel_rfl) (by kernel_rfl) ?_)
  repeat (walk_at "pl e")
  refine ⟨.ref b, ps.map (.txt o), ps.map (.txt o), 1, rfl, by decide, rfl, by rw [List.length_map]; (first | lia | omega), fun i v w H' hv hw => ?_, ?_⟩
  · rw [hv] at hw
    cases hw
    rw [List.getElem?_map] at hv
    obtain ⟨c, hc, rfl⟩ : ∃ c, ps[i]? = some c ∧ v = .txt o c := by
      cases e : ps[i]? with
      | none => rw [e] at hv; cases hv
      | some c => rw [e] at hv; cases hv; exact ⟨c, rfl, rfl⟩
    exact fspath_ok hf9 hb ⟨rfl, rfl⟩
  have hl0 : 0 < ps.length := List.length_pos_iff.mpr h0
  refine TSs.le (σ' := ⟨[("paths", .tup (ps.map (.txt o)))], H⟩) ⟨by walk_at "pl lo", List.Sublist.refl _⟩ ?_
  refine TSs.cons ?_
  repeat (walk_at "pl e")
  refine Tru.tup (by rw [List.length_map]; (first | lia | omega)) ?_
  refine ite_f (by simp [h0]) ?_
  refine TSs.nil ?_
  refine TSs.cons ?_
  refine TS.cut (P := fun f σ' => f = .next ∧ Le ⟨[("paths", .tup (ps.map (.txt o))), ("sep", .txt o [47]), ("curdir", .txt o [46])], H⟩ σ') ?_ ?_
  · repeat (walk_at "pl e")
    refine Item.tup (j := 0) (u := .txt o ps[0]) (by rw [List.length_map]; (first | lia | omega)) ⟨by rw [if_neg (by decide)]; rfl, by rw [List.length_map]; (first | lia | omega)⟩ (by rw [List.getElem?_map, List.getElem?_eq_getElem hl0]; rfl) ?_
    repeat (walk_at "pl e")
    refine call_isinstance_txt (p := true) ?_
    repeat (walk_at "pl e")
    cases o
    · refine ite_f (by decide) ?_
      repeat (walk_at "pl e")
      exact ⟨rfl, by walk_at "pl lo", List.Sublist.refl _⟩
    · refine ite_t (by decide) ?_
      repeat (walk_at "pl e")
      exact ⟨rfl, by walk_at "pl lo", List.Sublist.refl _⟩
  rintro _ σ' ⟨rfl, hle⟩
  refine TSs.le hle ?_
  clear hle σ'
  refine TSs.cons ?_
  refine TS.tryOK ?_
  refine TSs.cons ?_
  refine TS.assignComp hC (by walk_at "pl comp") (by kernel_rfl) (by kernel_rfl) (by kernel_rfl) ?_
  repeat (walk_at "pl e")
  refine ⟨List Nat, ps, fun p => .txt o p, fun p => some (.lst ((splitS 47 p).map (.txt o))), [("sep", .txt o [47])], H, fun _ => True, Walk.tup, fun _ _ => trivial, List.Sublist.refl _, by walk_at "pl lf", by (first | lia | omega), ?_, .inl ?_⟩
  · intro C' hC' p hp
    refine TAs.name (hC'.stL (by kernel_rfl)) ?_
    refine TIfs.nil ?_
    refine ite_t rfl ?_
    refine TE.split o ?_
    repeat (walk_at "pl e")
    have := hm p hp
    exact ⟨by (first | lia | omega), rfl, by walk_at "pl lo", List.Sublist.refl _⟩
  rw [filterMap_some]
  refine TSs.le (σ' := ⟨[("paths", .tup (ps.map (.txt o))), ("sep", .txt o [47]), ("curdir", .txt o [46]), ("split_paths", .lst (ps.map fun p => .lst ((splitS 47 p).map (.txt o))))], H⟩) ⟨by walk_at "pl lo", List.Sublist.refl _⟩ ?_
  refine TSs.cons ?_
  refine TS.tryOK ?_
  refine TSs.cons ?_
  refine TS.unpack1 hC.calm (by walk_at "pl st") ?_ (by rfl) (by rfl)
  refine TE.setcompB hC (by walk_at "pl comp") ?_
  repeat (walk_at "pl e")
  refine ⟨List Nat, ps, fun p => .txt o p, fun p => headIs 47 p, [("sep", .txt o [47])], H, fun _ => True, Walk.tup, fun _ _ => trivial, List.Sublist.refl _, by walk_at "pl lf", by (first | lia | omega), ?_, fun aS ep => ⟨aS, _, _, headIs 47 (ps.headD []), ep, rfl, List.mem_cons_self, ?_, ?_, ?_⟩⟩
  · intro C' hC' p hp
    refine TAs.name (hC'.stL (by kernel_rfl)) ?_
    refine TIfs.nil ?_
    refine ite_t rfl ?_
    refine TE.startswith o ?_
    repeat (walk_at "pl e")
    exact ⟨rfl, by walk_at "pl lo", List.Sublist.refl _⟩
  · cases ps with
    | nil => exact absurd rfl h0
    | cons p r =>
      have hsame : ∀ q ∈ p :: r, headIs 47 q = headIs 47 p := hsame
      show (((p :: r).any fun x => !headIs 47 x) : Bool) = !headIs 47 p
      cases e : headIs 47 p with
      | true => rw [List.any_eq_false.mpr fun q hq => by rw [hsame q hq, e]; decide]; rfl
      | false => rw [List.any_eq_true.mpr ⟨p, List.mem_cons_self, by rw [e]; rfl⟩]; rfl
  · cases ps with
    | nil => exact absurd rfl h0
    | cons p r =>
      have hsame : ∀ q ∈ p :: r, headIs 47 q = headIs 47 p := hsame
      show ((p :: r).any fun x => headIs 47 x) = headIs 47 p
      cases e : headIs 47 p with
      | true => exact List.any_eq_true.mpr ⟨p, List.mem_cons_self, e⟩
      | false => exact List.any_eq_false.mpr fun q hq => by rw [hsame q hq, e]; decide
  generalize hr : headIs 47 (ps.headD []) = r at h ⊢
  refine TSs.nil ?_
  refine TSs.nil ?_
  refine TSs.le (σ' := ⟨[("sep", .txt o [47]), ("curdir", .txt o [46]), ("split_paths", .lst (ps.map fun p => .lst ((splitS 47 p).map (.txt o)))), ("isabs", .bool r)], H⟩) ⟨by walk_at "pl lo", List.sublist_cons_self _ _⟩ ?_
  refine TSs.cons ?_
  refine TS.assignComp hC (by walk_at "pl comp") (by kernel_rfl) (by kernel_rfl) (by kernel_rfl) ?_
  repeat (walk_at "pl e")
  refine ⟨List Nat, ps, fun p => .lst ((splitS 47 p).map (.txt o)), fun p => some (.lst ((compsS p).map (.txt o))), [("curdir", .txt o [46])], H, fun _ => True, Walk.lst, fun _ _ => trivial, List.Sublist.refl _, by walk_at "pl lf", by (first | lia | omega), ?_, .inl ?_⟩
  · intro C' hC' p hp
    refine TAs.name (hC'.stL (by kernel_rfl)) ?_
    refine TIfs.nil ?_
    refine ite_t rfl ?_
    have hlp := hm p hp
    have hsum := splitS_length 47 p
    have hcnt : (splitS 47 p).length ≤ 10001 := by
      have := splitS_sum 47 p
      (first | lia | omega)
    refine TE.listcompF hC' (by walk_at "pl comp") ?_
    repeat (walk_at "pl e")
    refine ⟨List Nat, splitS 47 p, fun c => .txt o c, fun c => if nm? c then some (.txt o c) else none, [("curdir", .txt o [46])], H, fun _ => True, Walk.lst, fun _ _ => trivial, List.Sublist.refl _, by walk_at "pl lf", by (first | lia | omega), ?_, ?_⟩
    · intro C2 hC2 c hc
      have hcl : c.length ≤ p.length := splitS_part_length hc
      refine TAs.name (hC2.stL (by kernel_rfl)) ?_
      refine TIfs.one ?_
      refine TB.cut (P := fun t σ' => t = nm? c ∧ Le ⟨[("curdir", .txt o [46]), ("c", .txt o c)], H⟩ σ') ?_ ?_
      · repeat (walk_at "pl e")
        refine Tru.txt (by (first | lia | omega)) ?_
        refine ite_b (fun c1 => ?_) (fun c1 => ?_)
        · repeat (walk_at "pl e")
          have c1 : c ≠ [] := by simpa using c1
          refine ite_b (fun c2 => ?_) (fun c2 => ?_)
          · have c2 : c ≠ [46] := by simpa using c2
            repeat (walk_at "pl e")
            exact ⟨by unfold nm?; simp [c1, c2], by walk_at "pl lo", List.Sublist.refl _⟩
          · have c2 : c = [46] := by simpa using c2
            exact ⟨by subst c2; rfl, by walk_at "pl lo", List.Sublist.refl _⟩
        · have c1 : c = [] := by simpa using c1
          exact ⟨by subst c1; rfl, by walk_at "pl lo", List.Sublist.refl _⟩
      · rintro _ σ' ⟨rfl, hle⟩
        cases e : nm? c with
        | false =>
          refine ite_f (by decide) ?_
          exact ⟨by simp [e], Le.trans (b := ⟨[("curdir", .txt o [46]), ("c", .txt o c)], H⟩) ⟨by walk_at "pl lo", List.Sublist.refl _⟩ hle⟩
        | true =>
          refine ite_t rfl ?_
          refine TE.le hle ?_
          repeat (walk_at "pl e")
          exact ⟨by simp [e], by walk_at "pl lo", List.Sublist.refl _⟩
    · refine ⟨?_, by walk_at "pl lo", List.Sublist.refl _⟩
      rw [filterMap_if]; rfl
  rw [filterMap_some]
  have els : (ps.map fun p => V.lst ((compsS p).map (.txt o))) = (ps.map compsS).map fun l => V.lst (l.map (.txt o)) := by rw [List.map_map]; rfl
  rw [els]
  have hls0 : 0 < (ps.map compsS).length := by rw [List.length_map]; exact hl0
  have hbest : ∀ op, ∃ p ∈ ps, bestL op (ps.map compsS) = compsS p := fun op => by
    have := bestL_mem op (ls := ps.map compsS) (by simpa using h0)
    obtain ⟨p, hp, e⟩ := List.mem_map.mp this
    exact ⟨p, hp, e.symm⟩
  have hcomp : ∀ p ∈ ps, (compsS p).length ≤ 10001 ∧ sumL (compsS p) ≤ 10000 := fun p hp => by
    have h1 := hm p hp
    have h2 := splitS_sum 47 p
    have h3 := splitS_length 47 p
    have h4 : (compsS p).length ≤ (splitS 47 p).length := List.length_filter_le _ _
    have h5 : sumL (compsS p) ≤ sumL (splitS 47 p) := sumL_filter _ _
    have h6 : sumL (splitS 47 p) = ((splitS 47 p).map List.length).sum := rfl
    (first | lia | omega)
  have hsafe := bestL_le (ps.map compsS)
  have hcp : cpS ps = (if r then [47] else []) ++ joinS [47] (pfx (bestL .Lt (ps.map compsS)) (bestL .Gt (ps.map compsS))) := by rw [← hr]; rfl
  rw [hcp] at h
  obtain ⟨p1, hp1, e1⟩ := hbest .Lt
  obtain ⟨p2, hp2, e2⟩ := hbest .Gt
  have hc1 := hcomp p1 hp1
  have hc2 := hcomp p2 hp2
  rw [← e1] at hc1
  rw [← e2] at hc2
  refine TSs.cons ?_
  repeat (walk_at "pl e")
  refine call_minL (o := o) hC.calm (.fz _) hls0 ?_
  refine TSs.cons ?_
  repeat (walk_at "pl e")
  refine call_maxL (o := o) hC.calm (.fz _) hls0 ?_
  generalize bestL .Lt (ps.map compsS) = s1 at *
  generalize bestL .Gt (ps.map compsS) = s2 at *
  refine TSs.cons ?_
  repeat (walk_at "pl e")
  refine TS.cut (P := fun f σ' => f = .next ∧ ∃ k, Le ⟨[("sep", .txt o [47]), ("isabs", .bool r), ("common", .lst ((s1.take k).map (.txt o)))], H⟩ σ' ∧ pfx s1 s2 = s1.take k) ?_ ?_
  · refine TS.forEnum hC hb (by kernel_rfl) ?_
    repeat (walk_at "pl e")
    refine ⟨fun i σ => Le ⟨[("sep", .txt o [47]), ("isabs", .bool r), ("s1", .lst (s1.map (.txt o))), ("s2", .lst (s2.map (.txt o))), ("common", .lst (s1.map (.txt o)))], H⟩ σ ∧ s1.take i = s2.take i, ⟨⟨by walk_at "pl lo", List.Sublist.refl _⟩, rfl⟩, ?_, ?_⟩
    · rintro i u σ hu ⟨hle, heq⟩
      rw [List.getElem?_map] at hu
      obtain ⟨c, hc, rfl⟩ : ∃ c, s1[i]? = some c ∧ u = .txt o c := by
        cases e : s1[i]? with
        | none => rw [e] at hu; cases hu
        | some c => rw [e] at hu; cases hu; exact ⟨c, rfl, rfl⟩
      have hi1 : i < s1.length := (List.getElem?_eq_some_iff.mp hc).1
      have hi2 : i < s2.length := le_reach hsafe heq hi1
      have hd : s2[i]? = some s2[i] := List.getElem?_eq_getElem hi2
      refine TAs.tuple hC.calm rfl ?_
      refine TIn.cons (TAs.name (by walk_at "pl st") ?_)
      refine TIn.cons (TAs.name (by walk_at "pl st") ?_)
      refine TIn.nil ?_
      refine TSs.le hle.both.both ?_
      refine TSs.cons ?_
      repeat (walk_at "pl e")
      refine Item.listN (.fz _) (j := i) (u := .txt o s2[i]) (by rw [List.length_map]; (first | lia | omega)) (by rw [List.getElem?_map, hd]; rfl) ?_
      repeat (walk_at "pl e")
      refine ite_b (fun c1 => ?_) (fun c1 => ?_)
      · have c1 : c ≠ s2[i] := by simpa using c1
        repeat (walk_at "pl e")
        refine Slc.list (.fz _) (by rw [List.length_map]; (first | lia | omega)) (by simp) ?_
        rw [pick_plain, sl_to, ← List.map_take]
        repeat (walk_at "pl e")
        exact ⟨rfl, i, ⟨by walk_at "pl lo", List.Sublist.refl _⟩, pfx_ne heq hc hd c1⟩
      · have c1 : c = s2[i] := by simpa using c1
        repeat (walk_at "pl e")
        refine ⟨⟨by walk_at "pl lo", List.Sublist.refl _⟩, ?_⟩
        rw [List.take_add_one, List.take_add_one, heq, hc, hd, c1]
    · rintro σ ⟨hle, heq⟩
      rw [List.length_map] at heq
      refine TSs.nil ⟨rfl, s1.length, Le.trans (b := ⟨[("sep", .txt o [47]), ("isabs", .bool r), ("s1", .lst (s1.map (.txt o))), ("s2", .lst (s2.map (.txt o))), ("common", .lst (s1.map (.txt o)))], H⟩) ⟨?_, List.Sublist.refl _⟩ hle, ?_⟩
      · rw [List.take_length]; walk_at "pl lo"
      · rw [List.take_length]; exact pfx_all heq
  rintro _ σ' ⟨rfl, k, hle, hk⟩
  rw [hk] at h
  refine TSs.le hle ?_
  clear hle σ'
  have hkl : (s1.take k).length ≤ s1.length := List.length_take_le' k s1
  have hks := sumL_take s1 k
  generalize s1.take k = cm at *
  have hcs : sumL cm = (cm.map List.length).sum := rfl
  refine TSs.cons ?_
  refine TS.assign (by walk_at "pl st") ?_
  refine TE.cut (P := fun v σ' => v = .txt o (if r then [47] else []) ∧ Le ⟨[("sep", .txt o [47]), ("common", .lst (cm.map (.txt o)))], H⟩ σ') ?_ ?_
  · repeat (walk_at "pl e")
    cases r with
    | true =>
      refine ite_t rfl ?_
      repeat (walk_at "pl e")
      exact ⟨rfl, by walk_at "pl lo", List.Sublist.refl _⟩
    | false =>
      refine ite_f (by decide) ?_
      repeat (walk_at "pl e")
      refine Slc.txt (by decide) ?_
      exact ⟨rfl, by walk_at "pl lo", List.Sublist.refl _⟩
  rintro _ σ' ⟨rfl, hle⟩
  refine TSs.le hle.both ?_
  clear hle σ'
  refine TSs.cons ?_
  repeat (walk_at "pl e")
  refine TE.join o ?_
  repeat (walk_at "pl e")
  have hj : (joinS [47] cm).length ≤ 30000 := by
    rw [joinS_length]
    simp only [List.length_singleton]
    (first | lia | omega)
  refine ⟨_, cm, rfl, .fz _, ?_, ?_⟩
  · simp only [List.length_singleton]
    (first | lia | omega)
  refine Bin.add_txt (by cases r <;> simp <;> (first | lia | omega)) ?_
  exact h _ (List.Sublist.refl _)
end PL

end
section
open PySem PySem.Calls PyProof.Rows
set_option Elab.async false
set_option linter.unusedVariables false
set_option linter.unusedSimpArgs false
set_option maxHeartbeats 4000000
namespace PL
noncomputable abbrev Nm := List (List Nat)
noncomputable def enc (W : Nm) : List Nat := outH 1 W
noncomputable def wstep (acc : Nm) (c : List Nat) : Nm := if c = dd then acc.dropLast else if c = [] ∨ c = [46] then acc else acc ++ [c]
theorem wstep_eq {acc : Nm} (h : names? acc) {c : List Nat} (hc : 47 ∉ c) : stepN 1 acc c = wstep acc c := by
  unfold wstep
  by_cases h1 : c = dd
  · rw [if_pos h1, h1, step_ddr Nat.one_pos h]
  · rw [if_neg h1]
    by_cases h2 : c = [] ∨ c = [46]
    · rw [if_pos h2]
      rcases h2 with rfl | rfl
      · exact step_nil _ _
      · exact step_dot _ _
    · rw [if_neg h2]
      rw [not_or] at h2
      exact step_name ⟨h2.1, h2.2, h1, hc⟩
noncomputable def wayF (s : Nm) (ps : List (List Nat)) : Nm := ps.foldl wstep s
theorem way_eq : ∀ (ps : List (List Nat)) (s : Nm), names? s → (∀ p ∈ ps, 47 ∉ p) → ps.foldl (stepN 1) s = wayF s ps ∧ names? (wayF s ps)
  | [], s, h, _ => ⟨rfl, h⟩
  | p :: ps, s, h, hp => by
    have e := wstep_eq h (hp p (by simp))
    have n := names_step Nat.one_pos h (hp p (by simp))
    rw [e] at n
    have ih := way_eq ps (wstep s p) n fun q hq => hp q (List.mem_cons_of_mem _ hq)
    exact ⟨by rw [List.foldl_cons, e]; exact ih.1, ih.2⟩
theorem root_enc {F : Nm} (h : names? F) : rootN (enc F) = 1 := rootN_rep (by decide) (joinS_head (names_ok h))
theorem fold_filter : ∀ (ps acc : List (List Nat)), (ps.filter nm?).foldl (stepN 1) acc = ps.foldl (stepN 1) acc
  | [], acc => rfl
  | p :: ps, acc => by
    rw [List.filter_cons, List.foldl_cons]
    by_cases c : nm? p = true
    · rw [if_pos c, List.foldl_cons]; exact fold_filter ps _
    · rw [if_neg c, fold_filter ps acc]
      have hh : p = [] ∨ p = [46] := by
        unfold nm? at c
        by_cases q : p = []
        · exact .inl q
        · exact .inr (by simpa [q] using c)
      rcases hh with rfl | rfl
      · rw [step_nil]
      · rw [step_dot]
theorem cs_enc {F : Nm} (h : names? F) : csT (enc F) = F := by
  have e : compsS (enc F) = F := splitS_rep_join 1 h
  unfold csT normC
  rw [← fold_filter, show (splitS 47 (enc F)).filter nm? = F from e, fold_names F [] h, List.nil_append]
/-- the place of a member -/
theorem place_eq {F : Nm} (hF : names? F) (f : Nat) {ps : List (List Nat)} (hp : ∀ p ∈ ps, 47 ∉ p) {t : List Nat} (ht : t = List.replicate f 47 ++ joinS [47] ps) :
    cpS [normS (jn1 (enc F) t)] = enc (wayF (if headIs 47 t then [] else F) ps) ∧ names? (wayF (if headIs 47 t then [] else F) ps) := by
  have hs : ∀ acc : Nm, (splitS 47 t).foldl (stepN 1) acc = ps.foldl (stepN 1) acc := fun acc => by
    rw [ht, splitS_rep, List.foldl_append]
    have e0 : ∀ (k : Nat) (acc : Nm), (List.replicate k ([] : List Nat)).foldl (stepN 1) acc = acc := by
      intro k
      induction k with
      | zero => intro acc; rfl
      | succ k ih => intro acc; rw [List.replicate_succ, List.foldl_cons, step_nil]; exact ih acc
    rw [e0]
    by_cases h : ps = []
    · subst h; show [[]].foldl (stepN 1) acc = acc; exact step_nil 1 acc
    · rw [splitS_join 47 ps h hp]
  have fin : ∀ x : List Nat, 0 < rootN x → csT x = wayF (if headIs 47 t then [] else F) ps → names? (wayF (if headIs 47 t then [] else F) ps) → cpS [normS x] = enc (wayF (if headIs 47 t then [] else F) ps) := fun x h1 h2 h3 => by
    rw [norm_rooted h1, h2, cp_one h1 h3]; rfl
  by_cases h : headIs 47 t = true
  · rw [if_pos h] at fin ⊢
    obtain ⟨w1, w2⟩ := way_eq ps [] (fun c hc => by cases hc) hp
    refine ⟨fin _ ?_ ?_ w2, w2⟩
    · unfold jn1
      rw [if_pos (.inl h), rootN_lead]
      have : 0 < leadN t := by
        cases t with
        | nil => cases h
        | cons x t =>
          have : x = 47 := by simpa [headIs] using h
          rw [leadN_cons, if_pos this]; (clear this h hs ht w2 w1 fin hp ps f hF F x; (first | lia | omega))
      split <;> (clear this w2 w1 h fin hs ht hp ps f hF F; (first | lia | omega))
    · unfold jn1
      rw [if_pos (.inl h)]
      show normC 1 (splitS 47 t) = _
      rw [← w1]
      exact hs []
  · have h' : headIs 47 t = false := by simpa using h
    rw [if_neg h] at fin ⊢
    obtain ⟨w1, w2⟩ := way_eq ps F hF hp
    refine ⟨fin _ ?_ ?_ w2, w2⟩
    · rw [rootN_jn _ _ h', root_enc hF]; decide
    · show normC 1 (splitS 47 (jn1 (enc F) t)) = _
      rw [normC_jn 1 _ _ h', show normC 1 (splitS 47 (enc F)) = F from cs_enc hF, hs, w1]
/-- the folders above a place -/
noncomputable def abvN (s : Nat) (W : Nm) : List Nm := (List.range (W.length - s)).map fun i => W.take (W.length - 1 - i)
theorem take_iff {F W : Nm} : W.take F.length = F ↔ F <+: W := by rw [List.prefix_iff_eq_take, eq_comm]
theorem mem_abv {F W : Nm} (h : F <+: W) {d : Nm} : d ∈ abvN F.length W ↔ F <+: d ∧ d <+: W ∧ d ≠ W := by
  have hl := h.length_le
  unfold abvN
  rw [List.mem_map]
  constructor
  · rintro ⟨i, hi, rfl⟩
    have hi := List.mem_range.mp hi
    refine ⟨?_, List.take_prefix _ _, fun e => ?_⟩
    · exact List.prefix_of_prefix_length_le h (List.take_prefix _ _) (by rw [List.length_take]; (clear h hl; (first | lia | omega)))
    · have := congrArg List.length e
      rw [List.length_take] at this
      (clear e h hl; (first | lia | omega))
  · rintro ⟨h1, h2, h3⟩
    have l1 := h1.length_le
    have l2 := h2.length_le
    have l3 : d.length ≠ W.length := fun e => h3 (h2.eq_of_length e)
    refine ⟨W.length - 1 - d.length, List.mem_range.mpr (by (clear h3 h2 h1 h hl; (first | lia | omega))), ?_⟩
    rw [show W.length - 1 - (W.length - 1 - d.length) = d.length from by (clear l1 h3 h2 h1 hl h F; (first | lia | omega))]
    exact take_iff.mpr h2
theorem abv_len (s : Nat) (W : Nm) : (abvN s W).length = W.length - s := by unfold abvN; rw [List.length_map, List.length_range]
theorem abv_nodup (s : Nat) (W : Nm) : (abvN s W).Nodup := by
  unfold abvN List.Nodup
  rw [List.pairwise_map]
  refine List.Pairwise.imp_of_mem (fun {a b} ha hb hab e => ?_) (List.nodup_range (n := W.length - s))
  have ha := List.mem_range.mp ha
  have hb := List.mem_range.mp hb
  have := congrArg List.length e
  rw [List.length_take, List.length_take] at this
  (clear e; (first | lia | omega))
noncomputable def notIn (ds : List Nm) (x : Nm) : Bool := decide (x ∉ ds)
theorem notIn_iff {ds : List Nm} {x : Nm} : notIn ds x = true ↔ x ∉ ds := decide_eq_true_iff
noncomputable abbrev Fo := List (Nm × Nat)
noncomputable def putF (fo : Fo) (W : Nm) (n : Nat) : Fo := if W ∈ fo.map (·.1) then fo.map (fun p => if p.1 = W then (W, n) else p) else fo ++ [(W, n)]
noncomputable abbrev keepF (kept : Fo) (W : Nm) (n : Nat) : Fo := kept.filter (fun p => decide (p.1 ≠ W)) ++ [(W, n)]
theorem put_firsts (fo : Fo) (W : Nm) (n : Nat) : (putF fo W n).map (·.1) = if W ∈ fo.map (·.1) then fo.map (·.1) else fo.map (·.1) ++ [W] := by
  unfold putF
  split
  · rw [List.map_map]
    refine List.map_congr_left fun p _ => ?_
    show (if p.1 = W then (W, n) else p).1 = p.1
    split
    · rename_i h; exact h.symm
    · rfl
  · rw [List.map_append]; rfl
theorem keep_all {fo : Fo} {W : Nm} (h : W ∉ fo.map (·.1)) : fo.filter (fun p => decide (p.1 ≠ W)) = fo :=
  List.filter_eq_self.mpr fun p hp => decide_eq_true fun e => h (e ▸ List.mem_map_of_mem hp)
theorem put_perm (W : Nm) (n : Nat) : ∀ (fo : Fo), (fo.map (·.1)).Nodup → (putF fo W n).Perm (keepF fo W n)
  | [], _ => List.Perm.refl _
  | p :: fo, h => by
    rw [List.map_cons, List.nodup_cons] at h
    have ih := put_perm W n fo h.2
    unfold putF keepF at *
    by_cases e : p.1 = W
    · have hn : W ∉ fo.map (·.1) := e ▸ h.1
      rw [if_pos (by rw [List.map_cons, e]; exact List.mem_cons_self), List.map_cons, if_pos e, List.filter_cons, if_neg (c := decide (p.1 ≠ W) = true) (by simpa using e), keep_all hn]
      have e2 : fo.map (fun p => if p.1 = W then (W, n) else p) = fo := by
        conv => rhs; rw [← List.map_id fo]
        refine List.map_congr_left fun q hq => if_neg fun e' => hn (by rw [← e']; exact List.mem_map_of_mem hq)
      rw [e2]
      exact (List.perm_append_singleton (W, n) fo).symm
    · rw [List.filter_cons, if_pos (c := decide (p.1 ≠ W) = true) (by simpa using e)]
      by_cases hm : W ∈ fo.map (·.1)
      · rw [if_pos (by rw [List.map_cons]; exact List.mem_cons_of_mem _ hm), List.map_cons, if_neg e]
        rw [if_pos hm] at ih
        exact ih.cons p
      · rw [if_neg (by rw [List.map_cons, List.mem_cons, not_or]; exact ⟨fun q => e q.symm, hm⟩), keep_all hm]
structure Jn (F : Nm) (fo : Fo) (ds : List Nm) (kept : Fo) : Prop where
  perm : fo.Perm kept
  nd : (fo.map (·.1)).Nodup
  dn : ds.Nodup
  mem : ∀ d, d ∈ ds ↔ d = F ∨ ∃ w ∈ fo.map (·.1), F <+: d ∧ d <+: w ∧ d ≠ w
  fw : ∀ w ∈ fo.map (·.1), F <+: w ∧ w ≠ F
noncomputable abbrev StT := List Nat × Fo × List Nm
noncomputable abbrev StD := List Nat × Fo
open Classical in
noncomputable def stepT (F : Nm) (st : StT) (W : Nm) : StT :=
  if W.take F.length ≠ F then (st.1 ++ [0], st.2)
  else if W ∈ st.2.2 then (st.1 ++ [1], st.2)
  else if ∃ x ∈ abvN F.length W, x ∈ st.2.1.map (·.1) then (st.1 ++ [2], st.2)
  else (st.1 ++ [3], putF st.2.1 W st.1.length, st.2.2 ++ (abvN F.length W).filter (notIn st.2.2))
open Classical in
noncomputable def stepD (F : Nm) (st : StD) (W : Nm) : StD :=
  if W.take F.length ≠ F then (st.1 ++ [0], st.2)
  else if W = F ∨ (st.2.filter fun p => decide (p.1 ≠ W ∧ p.1.take W.length = W)) ≠ [] then (st.1 ++ [1], st.2)
  else if (st.2.filter fun p => decide (p.1 ≠ W ∧ W.take p.1.length = p.1)) ≠ [] then (st.1 ++ [2], st.2)
  else (st.1 ++ [3], keepF st.2 W st.1.length)
theorem filter_ne {α : Type} {l : List α} {f : α → Bool} : l.filter f ≠ [] ↔ ∃ x ∈ l, f x = true := by
  constructor
  · intro h
    obtain ⟨x, hx⟩ := List.exists_mem_of_ne_nil _ h
    obtain ⟨a, b⟩ := List.mem_filter.mp hx
    exact ⟨x, a, b⟩
  · rintro ⟨x, a, b⟩ h
    have : x ∈ l.filter f := List.mem_filter.mpr ⟨a, b⟩
    rw [h] at this
    cases this
theorem Jn.dir {F : Nm} {fo kept : Fo} {ds : List Nm} (J : Jn F fo ds kept) {W : Nm} (h : F <+: W) : W ∈ ds ↔ (W = F ∨ (kept.filter fun p => decide (p.1 ≠ W ∧ p.1.take W.length = W)) ≠ []) := by
  rw [J.mem, filter_ne]
  refine or_congr_right ⟨?_, ?_⟩
  · rintro ⟨w, hw, _, h2, h3⟩
    obtain ⟨p, hp, rfl⟩ := List.mem_map.mp hw
    exact ⟨p, J.perm.mem_iff.mp hp, decide_eq_true ⟨h3.symm, take_iff.mpr h2⟩⟩
  · rintro ⟨p, hp, hd⟩
    have hd := of_decide_eq_true hd
    exact ⟨p.1, List.mem_map_of_mem (J.perm.mem_iff.mpr hp), h, take_iff.mp hd.2, hd.1.symm⟩
theorem Jn.below {F : Nm} {fo kept : Fo} {ds : List Nm} (J : Jn F fo ds kept) {W : Nm} (h : F <+: W) : (∃ x ∈ abvN F.length W, x ∈ fo.map (·.1)) ↔ (kept.filter fun p => decide (p.1 ≠ W ∧ W.take p.1.length = p.1)) ≠ [] := by
  rw [filter_ne]
  constructor
  · rintro ⟨x, hx, hm⟩
    obtain ⟨a, b, c⟩ := (mem_abv h).mp hx
    obtain ⟨p, hp, rfl⟩ := List.mem_map.mp hm
    exact ⟨p, J.perm.mem_iff.mp hp, decide_eq_true ⟨c, take_iff.mpr b⟩⟩
  · rintro ⟨p, hp, hd⟩
    have hd := of_decide_eq_true hd
    have hm := List.mem_map_of_mem (f := (·.1)) (J.perm.mem_iff.mpr hp)
    exact ⟨p.1, (mem_abv h).mpr ⟨(J.fw _ hm).1, take_iff.mp hd.2, hd.1⟩, hm⟩
theorem mem_firsts {fo : Fo} {W w : Nm} {n : Nat} : w ∈ (putF fo W n).map (·.1) ↔ w ∈ fo.map (·.1) ∨ w = W := by
  rw [put_firsts]
  split
  · rename_i h
    exact ⟨.inl, fun q => q.elim id fun e => e ▸ h⟩
  · rw [List.mem_append, List.mem_singleton]
theorem filter_less {ds : List Nm} {x : Nm} (h2 : x ∈ ds) : ∀ {l : List Nm}, x ∈ l → (l.filter (notIn ds)).length + 1 ≤ l.length
  | [], h => by cases h
  | y :: l, h1 => by
    rw [List.filter_cons, List.length_cons]
    by_cases c : y ∈ ds
    · rw [if_neg (fun q => notIn_iff.mp q c)]
      have := List.length_filter_le (notIn ds) l
      (clear c h1 y h2 x; (first | lia | omega))
    · rw [if_pos (notIn_iff.mpr c), List.length_cons]
      have h1 : x ∈ l := by
        rcases List.mem_cons.mp h1 with e | e
        · exact absurd (e ▸ h2) c
        · exact e
      have := filter_less h2 h1
      (first | lia | omega)
theorem put_len (fo : Fo) (W : Nm) (n : Nat) : (putF fo W n).length ≤ fo.length + 1 := by
  unfold putF
  split
  · rw [List.length_map]; (clear n; (first | lia | omega))
  · rw [List.length_append]; exact Nat.le_refl _
theorem Jn.put {F : Nm} {fo kept : Fo} {ds : List Nm} (J : Jn F fo ds kept) {W : Nm} (h : F <+: W) (hd : W ∉ ds) (n : Nat) :
    Jn F (putF fo W n) (ds ++ (abvN F.length W).filter (notIn ds)) (keepF kept W n) ∧ (ds ++ (abvN F.length W).filter (notIn ds)).length + (putF fo W n).length ≤ ds.length + fo.length + (W.length - F.length) := by
  have hF : F ∈ ds := (J.mem F).mpr (.inl rfl)
  have hWF : W ≠ F := fun e => hd (e ▸ hF)
  refine ⟨⟨?_, ?_, ?_, ?_, ?_⟩, ?_⟩
  · exact (put_perm W n fo J.nd).trans ((J.perm.filter _).append_right _)
  · rw [put_firsts]
    split
    · exact J.nd
    · rename_i hm
      exact List.nodup_append.mpr ⟨J.nd, by simp, fun a ha b hb e => hm (by rw [List.mem_singleton.mp hb] at e; exact e ▸ ha)⟩
  · refine List.nodup_append.mpr ⟨J.dn, (abv_nodup _ _).filter _, fun a ha b hb e => ?_⟩
    have := (List.mem_filter.mp hb).2
    exact notIn_iff.mp this (e ▸ ha)
  · intro d
    have e1 : d ∈ ds ++ (abvN F.length W).filter (notIn ds) ↔ d ∈ ds ∨ d ∈ abvN F.length W := by
      rw [List.mem_append, List.mem_filter, notIn_iff]
      by_cases c : d ∈ ds
      · simp [c]
      · simp [c]
    rw [e1, J.mem, mem_abv h, or_assoc]
    refine or_congr_right ⟨?_, ?_⟩
    · rintro (⟨w, hw, q⟩ | q)
      · exact ⟨w, mem_firsts.mpr (.inl hw), q⟩
      · exact ⟨W, mem_firsts.mpr (.inr rfl), q⟩
    · rintro ⟨w, hw, q⟩
      rcases mem_firsts.mp hw with e | e
      · exact .inl ⟨w, e, q⟩
      · exact .inr (e ▸ q)
  · intro w hw
    rcases mem_firsts.mp hw with e | e
    · exact J.fw w e
    · exact e ▸ ⟨h, hWF⟩
  · have h1 := put_len fo W n
    have h2 := filter_less hF ((mem_abv h).mpr ⟨List.prefix_refl F, h, fun e => hWF e.symm⟩)
    rw [abv_len] at h2
    rw [List.length_append]
    (clear hWF hF hd h J kept; (first | lia | omega))
noncomputable def costW (F W : Nm) : Nat := if W.take F.length = F then W.length - F.length else 0
/-- both tell the same -/
theorem run_same (F : Nm) : ∀ (Ws : List Nm) (T : StT) (D : StD), T.1 = D.1 → Jn F T.2.1 T.2.2 D.2 → (Ws.foldl (stepT F) T).1 = (Ws.foldl (stepD F) D).1 ∧ Jn F (Ws.foldl (stepT F) T).2.1 (Ws.foldl (stepT F) T).2.2 (Ws.foldl (stepD F) D).2 ∧
    (Ws.foldl (stepT F) T).2.2.length + (Ws.foldl (stepT F) T).2.1.length ≤ T.2.2.length + T.2.1.length + (Ws.map (costW F)).sum
  | [], T, D, h, J => ⟨h, J, Nat.le_refl _⟩
  | W :: Ws, T, D, h, J => by
    rw [List.foldl_cons, List.foldl_cons, List.map_cons, List.sum_cons]
    have key : (stepT F T W).1 = (stepD F D W).1 ∧ Jn F (stepT F T W).2.1 (stepT F T W).2.2 (stepD F D W).2 ∧ (stepT F T W).2.2.length + (stepT F T W).2.1.length ≤ T.2.2.length + T.2.1.length + costW F W := by
      unfold stepT stepD costW
      by_cases c0 : W.take F.length = F
      · have hp := take_iff.mp c0
        rw [if_neg (not_not_intro c0), if_neg (not_not_intro c0), if_pos c0]
        by_cases c1 : W ∈ T.2.2
        · rw [if_pos c1, if_pos ((J.dir hp).mp c1), h]
          exact ⟨rfl, J, Nat.le_add_right _ _⟩
        · rw [if_neg c1, if_neg (fun q => c1 ((J.dir hp).mpr q))]
          by_cases c2 : ∃ x ∈ abvN F.length W, x ∈ T.2.1.map (·.1)
          · rw [if_pos c2, if_pos ((J.below hp).mp c2), h]
            exact ⟨rfl, J, Nat.le_add_right _ _⟩
          · rw [if_neg c2, if_neg (fun q => c2 ((J.below hp).mpr q)), h]
            obtain ⟨a, b⟩ := J.put hp c1 D.1.length
            exact ⟨rfl, a, b⟩
      · rw [if_pos c0, if_pos c0, if_neg c0, h]
        exact ⟨rfl, J, Nat.le_add_right _ _⟩
    obtain ⟨k1, k2, k3⟩ := key
    obtain ⟨a, b, c⟩ := run_same F Ws _ _ k1 k2
    exact ⟨a, b, by (clear b a k2 k1 J h D; (first | lia | omega))⟩
theorem Jn.start (F : Nm) : Jn F [] [F] [] :=
  ⟨List.Perm.refl _, List.nodup_nil, by simp, fun d => by simp, fun w hw => by cases hw⟩
theorem Jn.small {F : Nm} {fo kept : Fo} {ds : List Nm} (J : Jn F fo ds kept) (h : ds.length + fo.length ≤ 64) : fo.length < 64 ∧ ds.length < 64 := by
  have h1 : 1 ≤ ds.length := List.length_pos_iff.mpr (List.ne_nil_of_mem ((J.mem F).mpr (.inl rfl)))
  refine ⟨by (clear J kept F; (first | lia | omega)), ?_⟩
  cases fo with
  | cons p fo => rw [List.length_cons] at h; (clear J p h1 kept F; (first | lia | omega))
  | nil =>
    match ds, J.dn, J.mem with
    | [], _, _ => simp
    | [_], _, _ => simp
    | a :: b :: r, hn, hm =>
      have ha := (hm a).mp (by simp)
      have hb := (hm b).mp (by simp)
      simp only [List.map_nil, List.not_mem_nil, false_and, exists_false, or_false] at ha hb
      rw [ha, hb] at hn
      simp at hn
open Classical in
/-- the folders that the walker tells -/
noncomputable def addN (ds : List Nm) (x : Nm) : List Nm := if x ∈ ds then ds else ds ++ [x]
theorem addN_fold : ∀ (l ds : List Nm), ds.Nodup → (l.foldl addN ds).Nodup ∧ ∀ d, d ∈ l.foldl addN ds ↔ d ∈ ds ∨ d ∈ l
  | [], ds, h => ⟨h, fun d => by simp⟩
  | x :: l, ds, h => by
    rw [List.foldl_cons]
    have h1 : (addN ds x).Nodup ∧ ∀ d, d ∈ addN ds x ↔ d ∈ ds ∨ d = x := by
      unfold addN
      split
      · rename_i c
        exact ⟨h, fun d => ⟨.inl, fun q => q.elim id fun e => e ▸ c⟩⟩
      · rename_i c
        refine ⟨List.nodup_append.mpr ⟨h, by simp, fun a ha b hb e => c (by rw [List.mem_singleton.mp hb] at e; exact e ▸ ha)⟩, fun d => by rw [List.mem_append, List.mem_singleton]⟩
    obtain ⟨a, b⟩ := addN_fold l (addN ds x) h1.1
    exact ⟨a, fun d => by rw [b, h1.2, List.mem_cons, or_assoc]⟩
noncomputable abbrev inN (F : Nm) (w : Nm) : List Nm := (List.range (w.length - (F.length + 1))).map fun i => w.take (F.length + 1 + i)
noncomputable def dirsD (F : Nm) (kept : Fo) : List Nm := kept.foldl (fun ds p => (inN F p.1).foldl addN ds) [F]
theorem dirs_flat (F : Nm) : ∀ (kept : Fo) (ds : List Nm), kept.foldl (fun ds p => (inN F p.1).foldl addN ds) ds = (kept.flatMap fun p => inN F p.1).foldl addN ds
  | [], ds => rfl
  | p :: kept, ds => by rw [List.foldl_cons, dirs_flat F kept, List.flatMap_cons, List.foldl_append]
theorem mem_in {F w : Nm} (h : F <+: w) {d : Nm} : d ∈ inN F w ↔ F <+: d ∧ d <+: w ∧ d ≠ w ∧ d ≠ F := by
  have hl := h.length_le
  unfold inN
  rw [List.mem_map]
  constructor
  · rintro ⟨i, hi, rfl⟩
    have hi := List.mem_range.mp hi
    refine ⟨List.prefix_of_prefix_length_le h (List.take_prefix _ _) (by rw [List.length_take]; (first | lia | omega)), List.take_prefix _ _, fun e => ?_, fun e => ?_⟩
    · have := congrArg List.length e
      rw [List.length_take] at this; (clear e h hl; (first | lia | omega))
    · have := congrArg List.length e
      rw [List.length_take] at this; (clear e hl h; (first | lia | omega))
  · rintro ⟨h1, h2, h3, h4⟩
    have l1 := h1.length_le
    have l2 := h2.length_le
    have l3 : d.length ≠ w.length := fun e => h3 (h2.eq_of_length e)
    have l4 : F.length ≠ d.length := fun e => h4 (h1.eq_of_length e).symm
    refine ⟨d.length - (F.length + 1), List.mem_range.mpr (by (clear h4 h3 h2 h1 h hl; (first | lia | omega))), ?_⟩
    rw [show F.length + 1 + (d.length - (F.length + 1)) = d.length from by (clear l3 l2 h4 h3 h2 h1 hl h w; (first | lia | omega))]
    exact take_iff.mpr h2
theorem Jn.dirs {F : Nm} {fo kept : Fo} {ds : List Nm} (J : Jn F fo ds kept) : ds.Perm (dirsD F kept) := by
  unfold dirsD
  rw [dirs_flat]
  obtain ⟨a, b⟩ := addN_fold (kept.flatMap fun p => inN F p.1) [F] (by simp)
  refine (List.perm_ext_iff_of_nodup J.dn a).mpr fun d => ?_
  rw [b, J.mem, List.mem_singleton, List.mem_flatMap]
  constructor
  · rintro (h | ⟨w, hw, h1, h2, h3⟩)
    · exact .inl h
    · by_cases c : d = F
      · exact .inl c
      · obtain ⟨p, hp, rfl⟩ := List.mem_map.mp hw
        exact .inr ⟨p, J.perm.mem_iff.mp hp, (mem_in (J.fw _ hw).1).mpr ⟨h1, h2, h3, c⟩⟩
  · rintro (h | ⟨p, hp, h⟩)
    · exact .inl h
    · have hm := List.mem_map_of_mem (f := (·.1)) (J.perm.mem_iff.mpr hp)
      obtain ⟨h1, h2, h3, _⟩ := (mem_in (J.fw _ hm).1).mp h
      exact .inr ⟨p.1, hm, h1, h2, h3⟩
end PL

end
section
open PySem PySem.Calls PyProof.Rows
set_option Elab.async false
set_option linter.unusedVariables false
set_option linter.unusedSimpArgs false
set_option maxRecDepth 100000
set_option maxHeartbeats 4000000

namespace PL
theorem TArgs.le {C : Cx} {X : XP} {es : List Expr} {Q : List V → St → Prop} {σ σ' : St} (k : Le σ' σ) (h : TArgs C es Q X σ') : TArgs C es Q X σ := fun pos z₀ => (h pos z₀).weaken k.loc k.led

theorem pars20 : parsAt P9 20 = [("script" : Str)] := by kernel_rfl
theorem pars21 : parsAt P9 21 = [("text" : Str), "octets"] := by kernel_rfl
theorem pars22 : parsAt P9 22 = [("place" : Str), "base"] := by kernel_rfl
theorem pars23 : parsAt P9 23 = [("base" : Str), "members"] := by kernel_rfl
theorem pars24 : parsAt P9 24 = [("start" : Str), "pieces"] := by kernel_rfl
theorem pars25 : parsAt P9 25 = [("folder" : Str), "ways"] := by kernel_rfl
theorem pars26 : parsAt P9 26 = [("script" : Str)] := by kernel_rfl
theorem R.permH {C : Cx} {zs z : Z} {s : Shared} {L : List (Str × V)} {H H' : Led} (p : H.Perm H') (hR : R C zs ⟨L, H⟩ z s) : R C zs ⟨L, H'⟩ z s where
  rh := { hR.rh with hH := fun q hq => hR.rh.hH q (p.mem_iff.mpr hq), nodup := (p.map _).nodup_iff.mp hR.rh.nodup }
  ns := hR.ns
  cells := hR.cells
  cellsOk q hq := let ⟨a, b, c, d, e⟩ := hR.cellsOk q hq; ⟨a, b, c, d, fun x => e ((p.map _).mem_iff.mpr x)⟩
  locFree := ⟨hR.locFree.1, hR.locFree.2.1, fun x => hR.locFree.2.2 ((p.map _).mem_iff.mpr x)⟩
  fr := hR.fr
theorem TSs.permH {C : Cx} {X : XP} {st : List Stmt} {Q : Fl → St → Prop} {L : List (Str × V)} {H H' : Led} (p : H.Perm H') (h : TSs C st Q X ⟨L, H'⟩) : TSs C st Q X ⟨L, H⟩ :=
  fun z₀ zs z s hz hR => h z₀ zs z s hz (hR.permH p)
theorem TSs.freezeIn3 {C : Cx} {X : XP} {st : List Stmt} {QF : Fl → St → Prop} {L : List (Str × V)} {H : Led} {a b : Addr} {u : V} {cur vs : List V} (h : TSs C st QF X ⟨L, (b, .list (vs ++ [.lst [u, .lst cur]])) :: H⟩) :
    TSs C st QF X ⟨L, (a, .list cur) :: (b, .list (vs ++ [.lst [u, .ref a]])) :: H⟩ := TSs.permH (List.Perm.swap _ _ _) (TSs.freezeIn2 h)
theorem fmodN (i : Int) (n : Nat) (h : 0 < n) : ∃ k : Nat, k < n ∧ i.fmod n = k := by
  have h1 := Int.fmod_nonneg_of_pos i (show (0 : Int) < n by (clear i; (first | lia | omega)))
  have h2 := Int.fmod_lt_of_pos i (show (0 : Int) < n by (clear h1 i; (first | lia | omega)))
  exact ⟨(i.fmod n).toNat, by (clear h; (first | lia | omega)), by (clear h2 h; (first | lia | omega))⟩
theorem txt_at {o : Bool} {ps : List (List Nat)} {i : Nat} {q : List Nat} (h : ps[i]? = some q) : (ps.map (V.txt o))[i]? = some (.txt o q) := by rw [List.getElem?_map, h]; rfl
theorem kind_ok {g : Gd} {a : Addr} (hf : Fn g P9 21 a) (hb : Free g BI) {o : Bool} {l : List Nat} (hl : l.length ≤ 100000) (hc : ∀ c ∈ l, c < 256) {Q : V → Led → Prop} {X : XL} {K : Led}
    (h : Q (.txt o l) K) : CallT g (0 + 1) (.ref a) [.txt false l, .bool o] Q X K := by
  obtain ⟨hm, fd, F⟩ := hf
  refine CallT.def_ F (by rw [pars21]; rfl) fun C hC hro => ?_
  rw [pars21]
  refine TSs.le (start2 (by decide)) ?_
  refine TSs.cons ?_
  repeat (walk_at "pl e")
  cases o
  · refine ite_f (by decide) ?_
    repeat (walk_at "pl e")
    exact h
  · refine ite_t (by decide) ?_
    repeat (walk_at "pl e")
    refine TE.listcompF hC (by walk_at "pl comp") ?_
    repeat (walk_at "pl e")
    refine ⟨Nat, l, fun c => .txt false [c], fun c => some (.int (c : Int)), [], K, _, Walk.str, fun _ _ => trivial, List.Sublist.refl _, by walk_at "pl lf", by (clear h hro hC C F fd hm K X Q hc hb a g; (first | lia | omega)), ?_, ?_⟩
    · intro C' hC' c hc
      refine TAs.name (hC'.stL (by kernel_rfl)) ?_
      refine TIfs.nil ?_
      refine ite_t rfl ?_
      repeat (walk_at "pl e")
      refine call_ord ?_
      exact ⟨rfl, by walk_at "pl lo", List.Sublist.refl _⟩
    rw [filterMap_some]
    repeat (walk_at "pl e")
    refine call_bytes hC.calm (.fz _) hc (by (clear h hro hC C F fd hm K X Q hc hb a g; (first | lia | omega))) ?_
    exact h
/-! the members of the archive -/
noncomputable abbrev memV (m : Nat × Nm) : V := .lst [.txt false (List.replicate m.1 47), .lst (m.2.map (.txt false))]
noncomputable abbrev PieceOK (p : List Nat) : Prop := 47 ∉ p ∧ p.length ≤ 2 ∧ ∀ c ∈ p, c < 256
structure Mems (ms : List (Nat × Nm)) (n : Nat) : Prop where
  cnt : (ms.map fun m => m.2.length).sum + ms.length = n + 1
  ok : ∀ m ∈ ms, m.1 ≤ 2 ∧ ∀ p ∈ m.2, PieceOK p
theorem Mems.new {ms : List (Nat × Nm)} {n f : Nat} (h : Mems ms n) (hf : f ≤ 2) : Mems (ms ++ [(f, [])]) (n + 1) :=
  ⟨by rw [List.map_append, List.sum_append, List.length_append]; have := h.cnt; simp; (clear hf h f; (first | lia | omega)), fun m hm => by
    rcases List.mem_append.mp hm with e | e
    · exact h.ok m e
    · rw [List.mem_singleton.mp e]; exact ⟨hf, fun p hp => by cases hp⟩⟩
theorem Mems.piece {ms : List (Nat × Nm)} {n f : Nat} {cur : Nm} {p : List Nat} (h : Mems (ms ++ [(f, cur)]) n) (hp : PieceOK p) : Mems (ms ++ [(f, cur ++ [p])]) (n + 1) :=
  ⟨by have := h.cnt; rw [List.map_append, List.sum_append, List.length_append] at this ⊢; simp at this ⊢; (clear hp h f p; (first | lia | omega)), fun m hm => by
    rcases List.mem_append.mp hm with e | e
    · exact h.ok m (List.mem_append_left _ e)
    · rw [List.mem_singleton.mp e]
      obtain ⟨a, b⟩ := h.ok (f, cur) (by simp)
      exact ⟨a, fun q hq => (List.mem_append.mp hq).elim (b q) fun e => by rw [List.mem_singleton.mp e]; exact hp⟩⟩
theorem Mems.start : Mems [(0, [])] 0 := ⟨rfl, fun m hm => by rw [List.mem_singleton.mp hm]; exact ⟨by decide, fun p hp => by cases hp⟩⟩
theorem members_ok {g : Gd} {a : Addr} (hf : Fn g P9 20 a) (hb : Free g BI) {xs : List Int} (hx : xs.length ≤ 63) {Q : V → Led → Prop} {X : XL} {K : Led}
    (h : ∀ ms, Mems ms xs.length → Q (.lst (ms.map memV)) K) : CallT g (0 + 1) (.ref a) [.lst (xs.map .int)] Q X K := by
  obtain ⟨hm, fd, F⟩ := hf
  refine CallT.def_ F (by rw [pars20]; rfl) fun C hC hro => ?_
  rw [pars20]
  refine TSs.le start1 ?_
  refine TSs.cons ?_
  with_reducible refine TS.assignR ?_ ?_ ?_
  · walk_at "pl st"
  · exact rfl
  with_reducible refine TE.listM ?_
  refine TArgs.consR rfl ?_
  with_reducible refine TE.listF ?_
  refine TArgs.consR rfl ?_
  refine TE.str Str3 ?_
  refine TArgs.consR rfl ?_
  refine TE.listM ?_
  refine TArgs.nil ⟨by simp, fun aP => ?_⟩
  refine TArgs.nil ⟨by simp, ?_⟩
  refine TArgs.nil ⟨by simp, fun aM => ?_⟩
  refine TSs.le (σ' := ⟨[("script", .lst (xs.map .int)), ("members", .ref aM)], (aM, .list [.lst [.txt false [], .ref aP]]) :: (aP, .list []) :: K⟩) ⟨by walk_at "pl lo", List.Sublist.refl _⟩ ?_
  refine TSs.permH (List.Perm.swap _ _ _) ?_
  refine TSs.cons ?_
  refine TS.for_ hC.calm ?_
  repeat (walk_at "pl e")
  refine ⟨_, _, Walk.lst, fun i σ => i ≤ xs.length ∧ ∃ (ms : List (Nat × Nm)) (f : Nat) (cur : Nm) (aP : Addr), Mems (ms ++ [(f, cur)]) i ∧ Le ⟨[("members", .ref aM)], (aP, .list (cur.map (.txt false))) :: (aM, .list (ms.map memV ++ [.lst [.txt false (List.replicate f 47), .ref aP]])) :: K⟩ σ,
    ⟨Nat.zero_le _, [], 0, [], aP, Mems.start, by walk_at "pl lo", List.Sublist.refl _⟩, fun _ _ _ => trivial, ?_, ?_⟩
  rotate_left
  · rintro σ ⟨_, ms, f, cur, aP, hM, hle⟩
    rw [List.length_map] at hM
    refine TSs.nil ?_
    refine TSs.le hle ?_
    refine TSs.freezeIn3 ?_
    refine TSs.cons ?_
    refine TS.ret ?_
    refine TE.freeze ?_
    repeat (walk_at "pl e")
    refine ⟨aM, _, _, rfl, .head, ?_⟩
    have := h _ hM
    rw [List.map_append] at this
    exact this
  clear aP
  rintro i u σ hu ⟨hi, ms, f, cur, aP, hM, hle⟩
  rw [List.getElem?_map] at hu
  obtain ⟨x, hxi, hu⟩ : ∃ x : Int, xs[i]? = some x ∧ u = .int x := by
    cases e : xs[i]? with
    | none => rw [e] at hu; cases hu
    | some c => rw [e] at hu; cases hu; exact ⟨c, rfl, rfl⟩
  subst hu
  have hil := (List.getElem?_eq_some_iff.mp hxi).1
  have hml : ms.length ≤ 64 ∧ cur.length ≤ 64 := by
    have := hM.cnt
    rw [List.map_append, List.sum_append, List.length_append] at this
    simp at this
    (clear hu hxi x hle hM aP f hi σ aM hro hC C F fd hm h K X Q hb a g; (first | lia | omega))
  refine TAs.name (by walk_at "pl st") ?_
  refine TSs.le hle.both ?_
  clear hle σ
  obtain ⟨q, hq⟩ : ∃ q, q = x.fdiv 8 := ⟨_, rfl⟩
  obtain ⟨k, hk, ek⟩ := fmodN x 8 (by decide)
  obtain ⟨k2, hk2, ek2⟩ := fmodN q 2 (by decide)
  obtain ⟨k4, hk4, ek4⟩ := fmodN q 4 (by decide)
  obtain ⟨kc, hkc, ekc⟩ := fmodN q 208 (by decide)
  replace ek : x.fmod 8 = k := ek
  replace ek2 : q.fmod 2 = k2 := ek2
  replace ek4 : q.fmod 4 = k4 := ek4
  replace ekc : q.fmod 208 = kc := ekc
  refine TSs.cons ?_
  repeat (walk_at "pl e")
  refine Bin.fdiv_int (by decide) (PyProof.noPylong_of_log2 (by decide +kernel)) ?_
  rw [← hq]
  refine TSs.cons ?_
  repeat (walk_at "pl e")
  refine Bin.mod_int (by decide) ?_
  rw [ek]
  repeat (walk_at "pl e")
  refine ite_b (fun c => ?_) (fun c => ?_)
  · -- a new member
    refine TSs.le (σ' := ⟨[("members", .ref aM), ("x", .int x), ("q", .int q)], (aP, .list (cur.map (.txt false))) :: (aM, .list (ms.map memV ++ [.lst [.txt false (List.replicate f 47), .ref aP]])) :: K⟩) ⟨by walk_at "pl lo", List.Sublist.refl _⟩ ?_
    refine TSs.freezeIn3 ?_
    refine TSs.cons ?_
    refine TS.expr ?_
    refine TE.appendM ?_
    repeat (walk_at "pl e")
    refine ⟨aM, _, rfl, List.mem_cons_self, ?_⟩
    refine TArgs.consR rfl ?_
    refine TE.listF ?_
    refine TArgs.consR rfl ?_
    refine TE.cut (P := fun v σ' => (∃ f', f' ≤ 2 ∧ v = .txt false (List.replicate f' 47)) ∧ Le ⟨[("members", .ref aM)], (aM, .list (ms.map memV ++ [memV (f, cur)])) :: K⟩ σ') ?_ ?_
    · repeat (walk_at "pl e")
      refine Bin.mod_int (by decide) ?_
      rw [ek]
      repeat (walk_at "pl e")
      refine ite_b (fun c2 => ?_) (fun c2 => ?_)
      · repeat (walk_at "pl e")
        exact ⟨⟨0, by decide, rfl⟩, by walk_at "pl lo", List.Sublist.refl _⟩
      · repeat (walk_at "pl e")
        refine Bin.mod_int (by decide) ?_
        rw [ek2]
        repeat (walk_at "pl e")
        refine Bin.mul_txt (by (clear c2 c ekc ek4 ek hkc hk4 hk hq hml hil hu hxi hM aP f hi aM hro hC C F fd hm h K X Q hx hb a g kc k4 k x cur ms i xs ek2 hk2 q; (first | lia | omega))) (by (clear c2 c ekc ek4 ek hkc hk4 hk hq hml hil hu hxi hM aP f hi aM hro hC C F fd hm h K X Q hx hb a g kc k4 k x cur ms i xs ek2 q; (first | lia | omega))) ?_
        exact ⟨⟨(1 + (k2 : Int)).toNat, by (clear c2 c ekc ek4 ek hkc hk4 hk hq hml hil hu hxi hM aP f hi aM hro hC C F fd hm h K X Q hx hb a g kc k4 k x cur ms i xs ek2 q; (first | lia | omega)), rfl⟩, by walk_at "pl lo", List.Sublist.refl _⟩
    rintro _ σ' ⟨⟨f', hf', rfl⟩, hle⟩
    refine TArgs.le hle ?_
    clear hle σ'
    refine TArgs.consR rfl ?_
    refine TE.listM ?_
    refine TArgs.nil ⟨by simp, fun aQ => ?_⟩
    refine TArgs.nil ⟨by simp, ?_⟩
    refine TArgs.nil ⟨_, _, _, rfl, .tail .head, by rw [List.length_append, List.length_map, List.length_singleton]; (clear aQ hf' c ekc ek4 ek2 ek hkc hk4 hk2 hk hq hil hu hxi hM aP f hi aM hro hC C F fd hm h K X Q hx hb a g f' kc k4 k2 k q x i xs; (first | lia | omega)), ?_⟩
    refine TSs.nil (TSs.nil ?_)
    refine ⟨hil, ms ++ [(f, cur)], f', [], aQ, hM.new hf', by walk_at "pl lo", ?_⟩
    rw [List.map_append]
    exact List.Sublist.refl _
  · -- a piece
    have c : 2 ≤ k := by
      rcases Nat.lt_or_ge k 2 with x | x
      · exact absurd (decide_eq_true (by (clear c ekc ek4 ek2 hkc hk4 hk2 hq hml hil hu hxi hM aP f hi aM hro hC C F fd hm h K X Q hx hb a g kc k4 k2 q cur ms i xs ek hk; (first | lia | omega)))) c
      · exact x
    refine TSs.cons ?_
    refine TS.assign (by walk_at "pl st") ?_
    repeat (walk_at "pl e")
    refine ⟨by simp, ?_⟩
    repeat (walk_at "pl e")
    refine Bin.mod_int (by decide) ?_
    rw [ek4]
    obtain ⟨sp, hsp⟩ : ∃ sp, ([[46], [], [97, 98], [98, 98]] : List (List Nat))[k4]? = some sp := ⟨_, List.getElem?_eq_getElem hk4⟩
    have hsp2 : PieceOK sp := by
      have : ∀ w ∈ ([[46], [], [97, 98], [98, 98]] : List (List Nat)), PieceOK w := by decide
      exact this _ (List.mem_of_getElem? hsp)
    refine Item.listN (.fz _) (by simp) (txt_at (o := false) hsp) ?_
    obtain ⟨p, hp⟩ : ∃ p, ([[97], [97], [98], dd, sp, [97, 48 + kc]] : List (List Nat))[k - 2]? = some p := ⟨_, List.getElem?_eq_getElem (by show k - 2 < 6; (clear hsp2 hsp ekc ek4 ek2 hkc hk4 hk2 hq hml hil hu hxi hM aP f hi aM hro hC C F fd hm h K X Q hx hb a g sp kc k4 k2 q cur ms i xs c ek x; (first | lia | omega)))⟩
    have hp2 : PieceOK p := by
      have h1 : PieceOK [97] := by decide
      have h2 : PieceOK [98] := by decide
      have h3 : PieceOK dd := by decide
      have h4 : PieceOK [97, 48 + kc] := ⟨by simp; (first | lia | omega), by simp, by simp; (first | lia | omega)⟩
      have : ∀ w ∈ ([[97], [97], [98], dd, sp, [97, 48 + kc]] : List (List Nat)), PieceOK w := by
        intro w hw
        simp only [List.mem_cons, List.not_mem_nil, or_false] at hw
        rcases hw with rfl | rfl | rfl | rfl | rfl | rfl
        · exact h1
        · exact h1
        · exact h2
        · exact h3
        · exact hsp2
        · exact h4
      exact this _ (List.mem_of_getElem? hp)
    refine TSs.cons ?_
    refine TS.expr ?_
    refine TE.appendM ?_
    repeat (walk_at "pl e")
    refine Item.listZ (.mt (.tail _ (.head _))) (by rw [List.length_append, List.length_map, List.length_singleton]; (first | lia | omega)) (by rw [List.length_append, List.length_singleton]) List.getElem?_concat_length ?_
    repeat (walk_at "pl e")
    refine Item.listN (.fz _) (j := 1) (by simp) rfl ?_
    refine ⟨aP, _, rfl, List.mem_cons_self, ?_⟩
    repeat (walk_at "pl e")
    refine Bin.mod_int (by decide) ?_
    rw [ekc]
    repeat (walk_at "pl e")
    refine call_chr (by (first | lia | omega)) (by (first | lia | omega)) ?_
    refine Bin.add_txt (by simp) ?_
    refine TArgs.nil ⟨by simp, ?_⟩
    repeat (walk_at "pl e")
    refine Bin.mod_int (by decide) ?_
    rw [ek]
    repeat (walk_at "pl e")
    rw [show (k : Int) - 2 = ((k - 2 : Nat) : Int) from by (first | lia | omega), show (48 + (kc : Int)).toNat = 48 + kc from by (first | lia | omega)]
    refine Item.listN (.fz _) (by simp) (txt_at (o := false) hp) ?_
    refine TArgs.nil ⟨_, _, _, rfl, .head, by rw [List.length_map]; (first | lia | omega), ?_⟩
    refine TSs.nil (TSs.nil ?_)
    refine ⟨hil, ms, f, cur ++ [p], aP, hM.piece hp2, by walk_at "pl lo", ?_⟩
    rw [List.map_append]
    exact List.Sublist.refl _
end PL

end
section
open PySem PySem.Calls PyProof.Rows
set_option Elab.async false
set_option linter.unusedVariables false
set_option linter.unusedSimpArgs false
set_option maxRecDepth 100000
set_option maxHeartbeats 4000000

namespace PL

theorem way_take {s : Nm} {ps : List (List Nat)} {i : Nat} {p : List Nat} (h : ps[i]? = some p) : wayF s (ps.take (i + 1)) = wstep (wayF s (ps.take i)) p := by
  unfold wayF; rw [List.take_add_one, h, List.foldl_append]; rfl
theorem way_len (s : Nm) : ∀ (ps : List (List Nat)), (wayF s ps).length ≤ s.length + ps.length := fun ps => by
  unfold wayF
  induction ps generalizing s with
  | nil => exact Nat.le_refl _
  | cons p ps ih =>
    have := ih (wstep s p)
    have h1 : (wstep s p).length ≤ s.length + 1 := by
      unfold wstep
      split
      · rw [List.length_dropLast]; (clear this ih ps; (first | lia | omega))
      · split
        · (clear this ih ps; (first | lia | omega))
        · rw [List.length_append]; exact Nat.le_refl _
    rw [List.foldl_cons, List.length_cons]
    (clear ih; (first | lia | omega))
theorem lawway_ok {g : Gd} {a : Addr} (hf : Fn g P9 24 a) (hb : Free g BI) {s : Nm} {ps : List (List Nat)} (hn : s.length + ps.length ≤ 1000) {Q : V → Led → Prop} {X : XL} {K : Led}
    (h : Q (.lst ((wayF s ps).map (.txt false))) K) : CallT g (0 + 1) (.ref a) [.lst (s.map (.txt false)), .lst (ps.map (.txt false))] Q X K := by
  obtain ⟨hm, fd, F⟩ := hf
  refine CallT.def_ F (by rw [pars24]; rfl) fun C hC hro => ?_
  rw [pars24]
  refine TSs.le (start2 (by decide)) ?_
  refine TSs.cons ?_
  repeat (walk_at "pl e")
  refine call_list_lst (.fz _) (by rw [List.length_map]; (clear hro hC C F fd hm h K X Q hb a g; (first | lia | omega))) fun aW => ?_
  refine TSs.cons ?_
  refine TS.for_ hC.calm ?_
  repeat (walk_at "pl e")
  refine ⟨_, _, Walk.lst, fun i σ => i ≤ ps.length ∧ ∃ aW, Le ⟨[("way", .ref aW)], (aW, .list ((wayF s (ps.take i)).map (.txt false))) :: K⟩ σ, ⟨Nat.zero_le _, aW, by walk_at "pl lo", List.Sublist.refl _⟩, fun _ _ _ => trivial, ?_, ?_⟩
  rotate_left
  · rintro σ ⟨_, aW, hle⟩
    rw [List.length_map, List.take_length] at hle
    refine TSs.nil ?_
    refine TSs.le hle ?_
    refine TSs.cons ?_
    refine TS.ret ?_
    refine TE.freeze ?_
    repeat (walk_at "pl e")
    exact ⟨aW, _, _, rfl, .head, h⟩
  clear aW
  rintro i u σ hu ⟨hi, aW, hle⟩
  rw [List.getElem?_map] at hu
  obtain ⟨p, hp, hu⟩ : ∃ p, ps[i]? = some p ∧ u = .txt false p := by
    cases e : ps[i]? with
    | none => rw [e] at hu; cases hu
    | some c => rw [e] at hu; cases hu; exact ⟨c, rfl, rfl⟩
  subst hu
  have hil := (List.getElem?_eq_some_iff.mp hp).1
  have nx := way_take (s := s) hp
  have hwl := way_len s (ps.take i)
  rw [List.length_take] at hwl
  generalize wayF s (ps.take i) = w at nx hwl hle
  have hwm : (w.map (V.txt false)).length = w.length := List.length_map ..
  unfold wstep at nx
  refine TAs.name (by walk_at "pl st") ?_
  refine TSs.le hle.both ?_
  clear hle σ
  refine TSs.cons ?_
  repeat (walk_at "pl e")
  refine ite_b (fun c => ?_) (fun c => ?_)
  · have c : p = dd := by simpa using c
    rw [if_pos c] at nx
    refine TSs.cons ?_
    repeat (walk_at "pl e")
    refine Slc.listM (.mt List.mem_cons_self) (by (first | lia | omega)) (by decide) fun aV => ?_
    rw [pick_plain, sl_end, ← List.map_dropLast, ← nx]
    exact TSs.nil (TSs.nil ⟨hil, aV, by walk_at "pl lo", .cons_cons _ (.cons _ (List.Sublist.refl _))⟩)
  have c : ¬ p = dd := by simpa using c
  rw [if_neg c] at nx
  refine TSs.cons ?_
  repeat (walk_at "pl e")
  refine ⟨by simp, ?_⟩
  refine Cmp.notInTup (ps := [[], [46]]) ?_
  refine ⟨_, rfl, ?_⟩
  refine ite_b (fun c2 => ?_) (fun c2 => ?_)
  · have c2 : ¬ (p = [] ∨ p = [46]) := by simpa using c2
    rw [if_neg c2] at nx
    refine TSs.cons ?_
    refine TS.expr ?_
    refine TE.appendM ?_
    repeat (walk_at "pl e")
    refine ⟨aW, _, rfl, List.mem_cons_self, ?_⟩
    repeat (walk_at "pl e")
    refine ⟨_, _, _, rfl, .head, by (first | lia | omega), ?_⟩
    refine TSs.nil (TSs.nil (TSs.nil ⟨hil, aW, by walk_at "pl lo", ?_⟩))
    rw [nx, List.map_append]
    exact List.Sublist.refl _
  · have c2 : p = [] ∨ p = [46] := Classical.byContradiction fun q => c2 (by simpa using q)
    rw [if_pos c2] at nx
    refine TSs.nil (TSs.nil (TSs.nil ⟨hil, aW, by walk_at "pl lo", ?_⟩))
    rw [nx]
    exact List.Sublist.refl _
noncomputable abbrev encV (o : Bool) (d : Nm) : V := .txt o (enc d)
theorem enc_inj {a b : Nm} (ha : names? a) (hb : names? b) (h : enc a = enc b) : a = b := outH_inj ha hb h
theorem enc_len (W : Nm) : (enc W).length ≤ 1 + sumL W + W.length := outH_bound 1 W
theorem above_ok {g : Gd} {a a9 a13 a16 : Addr} (hf : Fn g P9 22 a) (h16 : Fn g P9 16 a16) (h9 : Fn g P9 9 a9) (h13 : Fn g P9 13 a13) (hb : Free g BI) {o : Bool} {F W : Nm} (hF : names? F) (hW : names? W) (hn : sumL W + W.length + sumL F + F.length ≤ 1000) {Q : V → Led → Prop} {X : XL} {K : Led}
    (h : Q (.lst ((abvN (if W.take F.length = F then F.length else 0) W).map (encV o))) K) : CallT g (2 + 1) (.ref a) [encV o W, encV o F] Q X K := by
  obtain ⟨hm, fd, F_⟩ := hf
  refine CallT.def_ F_ (by rw [pars22]; rfl) fun C hC hro => ?_
  rw [pars22]
  refine TSs.le (start2 (by decide)) ?_
  refine TSs.cons ?_
  refine TS.assign (by walk_at "pl st") ?_
  refine TE.listM ?_
  refine TArgs.nil ⟨by simp, fun aA => ?_⟩
  obtain ⟨st, hst⟩ : ∃ st, st = if W.take F.length = F then F.length else 0 := ⟨_, rfl⟩
  rw [← hst] at h
  have hst2 : st ≤ W.length := by
    rw [hst]; split
    · rename_i c; exact (take_iff.mp c).length_le
    · exact Nat.zero_le _
  have len : ∀ k, (enc (W.take k)).length ≤ 1000 + 1 := fun k => by
    have h1 := enc_len (W.take k)
    have h2 := sumL_take W k
    rw [List.length_take] at h1
    (clear hst2 hst h aA hro hC C F_ fd hm K X Q hW hF o hb h13 h9 h16 a16 a13 a9 a g st; (first | lia | omega))
  refine TSs.cons ?_
  refine TS.cut (P := fun fl σ' => fl = .next ∧ Le ⟨[("above", .ref aA)], (aA, .list ((abvN st W).map (encV o))) :: K⟩ σ') ?_ ?_
  · refine TS.while_ (fun m σ => ∃ i : Nat, m = W.length - i ∧ i ≤ W.length - st ∧ Le ⟨[("place", encV o (W.take (W.length - i))), ("base", encV o F), ("above", .ref aA)], (aA, .list (((List.range i).map fun j => W.take (W.length - 1 - j)).map (encV o))) :: K⟩ σ) W.length
      ⟨0, rfl, Nat.zero_le _, by rw [Nat.sub_zero, List.take_length]; walk_at "pl lo", List.Sublist.refl _⟩ ?_
    rintro m σ ⟨i, rfl, hi, hle⟩
    refine TB.le hle ?_
    clear hle
    have done : i = W.length - st → ∀ σ, Le ⟨[("above", .ref aA)], (aA, .list (((List.range i).map fun j => W.take (W.length - 1 - j)).map (encV o))) :: K⟩ σ → Le ⟨[("above", .ref aA)], (aA, .list ((abvN st W).map (encV o))) :: K⟩ σ := fun e σ q => by
      subst e; exact q
    obtain ⟨k, hk⟩ : ∃ k, k = W.length - i := ⟨_, rfl⟩
    have hi2 : W.length - 1 - i = k - 1 := by (clear done hi σ len hst2 hst h aA hro hC C F_ fd hm K X Q hn hW hF o hb h13 h9 h16 a16 a13 a9 a g st F; (first | lia | omega))
    rw [← hk]
    have e1 : (enc (W.take k) != enc F) = decide (W.take k ≠ F) := by
      rw [Bool.eq_iff_iff, bne_iff_ne, decide_eq_true_iff]
      exact ⟨fun q e => q (by rw [e]), fun q e => q (enc_inj (names_take hW k) hF e)⟩
    repeat (walk_at "pl e")
    rw [e1]
    refine ite_b (fun c => ?_) (fun c => ?_)
    rotate_left
    · have c : W.take k = F := Classical.byContradiction fun q => c (decide_eq_true q)
      have hk2 : k = F.length := by rw [← c, List.length_take]; (first | lia | omega)
      have hst3 : st = F.length := by rw [hst, if_pos (by rw [← hk2]; exact c)]
      refine ite_f (by decide) ?_
      exact TSs.nil ⟨rfl, done (by (first | lia | omega)) _ ⟨by walk_at "pl lo", List.Sublist.refl _⟩⟩
    have c : W.take k ≠ F := of_decide_eq_true c
    have hk3 : st < k ∨ (k = 0 ∧ st = 0) := by
      by_cases q : W.take F.length = F
      · have hst3 : st = F.length := by rw [hst, if_pos q]
        have : k ≠ F.length := fun e => c (by rw [e]; exact q)
        (first | lia | omega)
      · have hst3 : st = 0 := by rw [hst, if_neg q]
        (first | lia | omega)
    repeat (walk_at "pl e")
    refine TE.callG hC h16 (by kernel_rfl) (by kernel_rfl) ?_
    repeat (walk_at "pl e")
    refine CallV.fnI hC (dirname_ok h16 h9 h13 hb (by have := len k; (first | lia | omega)) ?_) (by decide)
    repeat (walk_at "pl e")
    rcases hk3 with hk3 | ⟨hk0, hs0⟩
    · have e2 : dirS (enc (W.take k)) = enc (W.take (k - 1)) := by
        have := dirS_take (r := 1) hW (k := k - 1) (by (first | lia | omega))
        rwa [show k - 1 + 1 = k from by (first | lia | omega)] at this
      have e3 : (enc (W.take k) != enc (W.take (k - 1))) = true := by
        rw [bne_iff_ne]
        intro e
        have h1 := outH_grow (r := 1) hW (k := k - 1) (by (first | lia | omega))
        rw [show k - 1 + 1 = k from by (first | lia | omega)] at h1
        have h2 := congrArg List.length e
        unfold enc at h2
        (first | lia | omega)
      rw [e2, e3]
      refine ite_t rfl ?_
      refine TBall.and_nil ?_
      refine ite_t rfl ?_
      refine TSs.cons ?_
      refine TS.assign (by walk_at "pl st") ?_
      refine TE.callG hC h16 (by kernel_rfl) (by kernel_rfl) ?_
      repeat (walk_at "pl e")
      refine CallV.fnI hC (dirname_ok h16 h9 h13 hb (by have := len k; (first | lia | omega)) ?_) (by decide)
      rw [e2]
      refine TSs.cons ?_
      refine TS.expr ?_
      refine TE.appendM ?_
      repeat (walk_at "pl e")
      refine ⟨aA, _, rfl, List.mem_cons_self, ?_⟩
      repeat (walk_at "pl e")
      refine ⟨_, _, _, rfl, .head, by rw [List.length_map, List.length_map, List.length_range]; (first | lia | omega), ?_⟩
      refine TSs.nil ⟨W.length - (i + 1), by (first | lia | omega), i + 1, rfl, by (first | lia | omega), ?_⟩
      rw [show W.length - (i + 1) = k - 1 from by (first | lia | omega)]
      refine ⟨by walk_at "pl lo", ?_⟩
      rw [List.range_succ, List.map_append, List.map_append, List.map_singleton, List.map_singleton, hi2]
      exact List.Sublist.refl _
    · have e2 : dirS (enc (W.take k)) = enc (W.take k) := by
        rw [hk0, List.take_zero]; exact dirS_top 1
      rw [e2, show (enc (W.take k) != enc (W.take k)) = false from by simp]
      refine ite_f (by decide) ?_
      refine ite_f (by decide) ?_
      exact TSs.nil ⟨rfl, done (by (first | lia | omega)) _ ⟨by walk_at "pl lo", List.Sublist.refl _⟩⟩
  rintro _ σ' ⟨rfl, hle⟩
  refine TSs.le hle ?_
  refine TSs.cons ?_
  refine TS.ret ?_
  refine TE.freeze ?_
  repeat (walk_at "pl e")
  exact ⟨aA, _, _, rfl, .head, h⟩
end PL

end
section
open PySem PySem.Calls PyProof.Rows
set_option Elab.async false
set_option linter.unusedVariables false
set_option linter.unusedSimpArgs false
set_option maxRecDepth 100000
set_option maxHeartbeats 4000000

namespace PL

noncomputable def wordN : Nat → List Nat
  | 0 => ("outside" : Str).cps.toList
  | 1 => ("a folder" : Str).cps.toList
  | 2 => ("below a file" : Str).cps.toList
  | _ => ("a file" : Str).cps.toList
noncomputable abbrev wordV (n : Nat) : V := .txt false (wordN n)
noncomputable abbrev pe (o : Bool) (l : List Nm) : List V := (l.map enc).map (.txt o)
theorem pe_of {o : Bool} {l : List Nm} : l.map (encV o) = pe o l := by unfold pe; rw [List.map_map]; rfl
theorem enc_mem {l : List Nm} (hl : ∀ d ∈ l, names? d) {W : Nm} (hW : names? W) : enc W ∈ l.map enc ↔ W ∈ l := by
  rw [List.mem_map]
  exact ⟨fun ⟨d, h1, h2⟩ => enc_inj (hl d h1) hW h2 ▸ h1, fun h => ⟨W, h, rfl⟩⟩
theorem cp_two_enc {F W : Nm} (hF : names? F) (hW : names? W) : (cpS [enc F, enc W] != enc F) = decide (W.take F.length ≠ F) := by
  have e : cpS [enc F, enc W] = enc (pfx F W) := by
    rw [show cpS [enc F, enc W] = [47] ++ joinS [47] (pfx F W) from cp_two (r := 1) (by decide) hF hW]; rfl
  have hp : names? (pfx F W) := by
    obtain ⟨k, hk⟩ := pfx_len F W
    rw [hk]; exact names_take hF k
  rw [e, Bool.eq_iff_iff, bne_iff_ne, decide_eq_true_iff]
  refine ⟨fun q c => q (by rw [(pfx_prefix F W).mpr (take_iff.mp c)]), fun q c => q (take_iff.mpr ((pfx_prefix F W).mp (enc_inj hp hF c)))⟩
structure TOK (T : StT) : Prop where
  f : ∀ w ∈ T.2.1.map (·.1), names? w
  d : ∀ d ∈ T.2.2, names? d
theorem TOK.step {F : Nm} {T : StT} (h : TOK T) {W : Nm} (hW : names? W) : TOK (stepT F T W) := by
  unfold stepT
  split
  · exact ⟨h.f, h.d⟩
  split
  · exact ⟨h.f, h.d⟩
  split
  · exact ⟨h.f, h.d⟩
  · refine ⟨fun w hw => ?_, fun d hd => ?_⟩
    · rcases mem_firsts.mp hw with e | e
      · exact h.f w e
      · exact e ▸ hW
    · rcases List.mem_append.mp hd with e | e
      · exact h.d d e
      · obtain ⟨i, _, rfl⟩ := List.mem_map.mp (List.mem_filter.mp e).1
        exact names_take hW _
theorem TOK.run {F : Nm} : ∀ (Ws : List Nm) (T : StT), TOK T → (∀ W ∈ Ws, names? W) → TOK (Ws.foldl (stepT F) T)
  | [], T, h, _ => h
  | W :: Ws, T, h, hw => TOK.run Ws _ (h.step (hw W (by simp))) fun x hx => hw x (List.mem_cons_of_mem _ hx)
theorem sum_take : ∀ (l : List Nat) (i : Nat), (l.take i).sum ≤ l.sum
  | [], i => by simp
  | x :: l, 0 => by simp
  | x :: l, i + 1 => by
    have := sum_take l i
    rw [List.take_succ_cons, List.sum_cons, List.sum_cons]; (first | lia | omega)
noncomputable abbrev T0 (F : Nm) (Ws : List Nm) : StT := Ws.foldl (stepT F) ([], [], [F])
noncomputable abbrev D0 (F : Nm) (Ws : List Nm) : StD := Ws.foldl (stepD F) ([], [])
theorem T0_next {F : Nm} {Ws : List Nm} {i : Nat} {W : Nm} (h : Ws[i]? = some W) : T0 F (Ws.take (i + 1)) = stepT F (T0 F (Ws.take i)) W := by
  unfold T0; rw [List.take_add_one, h, List.foldl_append]; rfl
theorem T0_ok {F : Nm} (hF : names? F) {Ws : List Nm} (hw : ∀ W ∈ Ws, names? W) : TOK (T0 F Ws) := TOK.run Ws _ ⟨(fun w hw => by cases hw), (fun d hd => by rw [List.mem_singleton.mp hd]; exact hF)⟩ hw
theorem T0_cnt (F : Nm) (Ws : List Nm) (hc : (Ws.map (costW F)).sum ≤ 63) : (T0 F Ws).2.2.length + (T0 F Ws).2.1.length ≤ 64 := by
  have := (run_same F Ws ([], [], [F]) ([], []) rfl (Jn.start F)).2.2
  have e : ([F] : List Nm).length + ([] : Fo).length + (Ws.map (costW F)).sum ≤ 64 := by simp; (clear this; (first | lia | omega))
  exact Nat.le_trans this e
theorem T0_jn (F : Nm) (Ws : List Nm) : Jn F (T0 F Ws).2.1 (T0 F Ws).2.2 (D0 F Ws).2 := (run_same F Ws ([], [], [F]) ([], []) rfl (Jn.start F)).2.1
theorem stepT_len (F : Nm) (T : StT) (W : Nm) : (stepT F T W).1.length = T.1.length + 1 := by
  unfold stepT
  split
  · simp
  split
  · simp
  split
  · simp
  · simp
theorem T0_vs (F : Nm) : ∀ (Ws : List Nm) (T : StT), (Ws.foldl (stepT F) T).1.length = T.1.length + Ws.length
  | [], T => rfl
  | W :: Ws, T => by rw [List.foldl_cons, T0_vs F Ws, stepT_len, List.length_cons]; (clear W F; (first | lia | omega))
/-- where a name stands first -/
theorem first_at {W : Nm} : ∀ {l : List Nm}, W ∈ l → ∃ j : Nat, l[j]? = some W ∧ ∀ i : Nat, i < j → l[i]? ≠ some W
  | [], h => by cases h
  | x :: l, h => by
    by_cases e : x = W
    · exact ⟨0, by rw [e]; rfl, fun i hi => absurd hi (Nat.not_lt_zero i)⟩
    · have : W ∈ l := (List.mem_cons.mp h).elim (fun q => absurd q.symm e) id
      obtain ⟨j, h1, h2⟩ := first_at this
      refine ⟨j + 1, h1, fun i hi => ?_⟩
      cases i with
      | zero => exact fun q => e (Option.some.inj q)
      | succ i => exact h2 i (by (clear h2 h1 this e h l x W; (first | lia | omega)))
theorem put_set {fo : Fo} (hn : (fo.map (·.1)).Nodup) {W : Nm} {n j : Nat} (hj : (fo.map (·.1))[j]? = some W) : (fo.map fun p => (p.2 : Int)).set j (n : Int) = (putF fo W n).map fun p => (p.2 : Int) := by
  unfold putF
  rw [if_pos (List.mem_of_getElem? hj), List.map_map]
  have hjl := (List.getElem?_eq_some_iff.mp hj).1
  rw [List.length_map] at hjl
  apply List.ext_getElem?
  intro i
  rw [List.getElem?_set, List.getElem?_map, List.getElem?_map]
  by_cases e : j = i
  · subst e
    rw [if_pos rfl, if_pos (by rw [List.length_map]; exact hjl)]
    rw [List.getElem?_map] at hj
    rw [List.getElem?_eq_getElem hjl] at hj ⊢
    have hj : fo[j].1 = W := Option.some.inj hj
    show some (n : Int) = some (((if fo[j].1 = W then (W, n) else fo[j]).2 : Nat) : Int)
    rw [if_pos hj]
  · rw [if_neg e]
    cases h : fo[i]? with
    | none => rfl
    | some p =>
      have : p.1 ≠ W := fun q => by
        have h1 : (fo.map (·.1))[i]? = some W := by rw [List.getElem?_map, h, ← q]; rfl
        have := (List.getElem_inj (h₀ := hjl |> fun x => by simpa using x) (h₁ := by simpa using (List.getElem?_eq_some_iff.mp h).1) hn).mp ((List.getElem?_eq_some_iff.mp hj).2.trans (List.getElem?_eq_some_iff.mp h1).2.symm)
        exact e this
      show some (p.2 : Int) = some (((if p.1 = W then (W, n) else p).2 : Nat) : Int)
      rw [if_neg this]
theorem enc_first {l : List Nm} (hl : ∀ d ∈ l, names? d) {W : Nm} (hW : names? W) {j : Nat} (h1 : l[j]? = some W) (h2 : ∀ i : Nat, i < j → l[i]? ≠ some W) : (l.map enc)[j]? = some (enc W) ∧ ∀ i : Nat, i < j → (l.map enc)[i]? ≠ some (enc W) := by
  refine ⟨by rw [List.getElem?_map, h1]; rfl, fun i hi q => ?_⟩
  rw [List.getElem?_map] at q
  cases h : l[i]? with
  | none => rw [h] at q; cases q
  | some d =>
    rw [h] at q
    have : d = W := enc_inj (hl d (List.mem_of_getElem? h)) hW (Option.some.inj q)
    exact h2 i hi (by rw [h, this])
end PL

end
section
open PySem PySem.Calls PyProof.Rows
set_option Elab.async false
set_option linter.unusedVariables false
set_option linter.unusedSimpArgs false
set_option maxRecDepth 100000
set_option maxHeartbeats 4000000

namespace PL

structure Fs9 (g : Gd) (a9 a13 a14 a15 a16 a17 a18 a22 a23 : Addr) : Prop where
  b : Free g BI
  f9 : Fn g P9 9 a9
  f13 : Fn g P9 13 a13
  f14 : FnS g P9 14 a14
  f15 : Fn g P9 15 a15
  f16 : Fn g P9 16 a16
  f17 : Fn g P9 17 a17
  f18 : Fn g P9 18 a18
  f22 : Fn g P9 22 a22
  f23 : Fn g P9 23 a23
/-- a member and its way -/
structure MemOK (F : Nm) (m : List Nat × Nm) : Prop where
  place : cpS [normS (jn1 (enc F) m.1)] = enc m.2
  names : names? m.2
  tl : m.1.length ≤ 300
  wl : sumL m.2 + m.2.length ≤ 500
noncomputable abbrev L9 (aV aD aO aF : Addr) (o : Bool) (T : StT) (K : Led) : Led := (aV, .list (T.1.map wordV)) :: (aD, .list (pe o T.2.2)) :: (aO, .list ((T.2.1.map fun p => (p.2 : Int)).map .int)) :: (aF, .list (pe o (T.2.1.map (·.1)))) :: K
noncomputable abbrev S9 (o : Bool) (F : Nm) (aV aD aO aF : Addr) (r : List (Str × V)) : List (Str × V) := ("base", encV o F) :: ("files", .ref aF) :: ("owners", .ref aO) :: ("folders", .ref aD) :: ("verdicts", .ref aV) :: r
theorem unpacked_ok {g : Gd} {a9 a13 a14 a15 a16 a17 a18 a22 a23 : Addr} (fs : Fs9 g a9 a13 a14 a15 a16 a17 a18 a22 a23) {o : Bool} {F : Nm} (hF : names? F) (hFl : sumL F + F.length ≤ 100) {ms : List (List Nat × Nm)} (hm : ∀ m ∈ ms, MemOK F m) (hml : ms.length ≤ 64)
    (hc : ((ms.map (·.2)).map (costW F)).sum ≤ 63) {Q : V → Led → Prop} {X : XL} {K : Led}
    (h : ∀ (qs : List (List Nat × Nat)) (es : List (List Nat)), qs.Perm ((T0 F (ms.map (·.2))).2.1.map fun p => (enc p.1, p.2)) → qs.Pairwise (fun a b => ltT b.1 a.1 = false) → es.Perm ((T0 F (ms.map (·.2))).2.2.map enc) → es.Pairwise (fun a b => ltT b a = false) →
      ∀ H', K.Sublist H' → Q (.tup [.lst ((T0 F (ms.map (·.2))).1.map wordV), .lst (qs.map (pairT o)), .lst (es.map (.txt o))]) H') : CallT g (3 + 1) (.ref a23) [encV o F, .lst (ms.map fun m => .txt o m.1)] Q X K := by
  have hb := fs.b
  obtain ⟨hmm, fd, F_⟩ := fs.f23
  refine CallT.def_ F_ (by rw [pars23]; rfl) fun C hC hro => ?_
  rw [pars23]
  refine TSs.le (start2 (by decide)) ?_
  have hFe : (enc F).length ≤ 101 := by have := enc_len F; (clear hro hC C F_ fd hmm hb h K X Q hc hml hm hF o fs a23 a22 a18 a17 a16 a15 a14 a13 a9 g ms; (first | lia | omega))
  refine TSs.cons ?_
  refine TS.assignTo ?_
  refine TE.tuple ?_
  refine TArgs.consR rfl ?_
  refine TE.listM ?_
  refine TArgs.nil ⟨by simp, fun aF => ?_⟩
  refine TArgs.consR rfl ?_
  refine TE.listM ?_
  refine TArgs.nil ⟨by simp, fun aO => ?_⟩
  refine TArgs.consR rfl ?_
  refine TE.listM ?_
  repeat (walk_at "pl e")
  refine ⟨by simp, fun aD => ?_⟩
  refine TArgs.consR rfl ?_
  refine TE.listM ?_
  refine TArgs.nil ⟨by simp, fun aV => ?_⟩
  refine TArgs.nil ⟨by simp, ?_⟩
  refine TAs.tuple hC.calm rfl ?_
  refine TIn.cons (TAs.name (by walk_at "pl st") ?_) rfl
  refine TIn.cons (TAs.name (by walk_at "pl st") ?_) rfl
  refine TIn.cons (TAs.name (by walk_at "pl st") ?_) rfl
  refine TIn.cons (TAs.name (by walk_at "pl st") ?_) rfl
  refine TIn.nil ?_
  refine TSs.le (σ' := ⟨S9 o F aV aD aO aF [("members", .lst (ms.map fun m => .txt o m.1))], L9 aV aD aO aF o ([], [], [F]) K⟩) ⟨by walk_at "pl lo", List.Sublist.refl _⟩ ?_
  have hw : ∀ i, ∀ W ∈ (ms.map (·.2)).take i, names? W := fun i W hW => by
    obtain ⟨m, h1, rfl⟩ := List.mem_map.mp (List.mem_of_mem_take hW)
    exact (hm m h1).names
  refine TSs.cons ?_
  refine TS.cut (P := fun fl σ' => fl = .next ∧ Le ⟨S9 o F aV aD aO aF [], L9 aV aD aO aF o (T0 F (ms.map (·.2))) K⟩ σ') ?_ ?_
  · refine TS.for_ hC.calm ?_
    repeat (walk_at "pl e")
    refine ⟨_, _, Walk.lst, fun i σ => i ≤ ms.length ∧ Le ⟨S9 o F aV aD aO aF [], L9 aV aD aO aF o (T0 F ((ms.map (·.2)).take i)) K⟩ σ, ⟨Nat.zero_le _, by walk_at "pl lo", List.Sublist.refl _⟩, fun _ _ _ => trivial, ?_, ?_⟩
    rotate_left
    · rintro σ ⟨_, hle⟩
      rw [List.length_map, List.take_of_length_le (by rw [List.length_map]; exact Nat.le_refl _)] at hle
      exact TSs.nil ⟨rfl, hle⟩
    rintro i u σ hu ⟨hi, hle⟩
    rw [List.getElem?_map] at hu
    obtain ⟨⟨t, W⟩, hmi, hu⟩ : ∃ m, ms[i]? = some m ∧ u = .txt o m.1 := by
      cases e : ms[i]? with
      | none => rw [e] at hu; cases hu
      | some c => rw [e] at hu; cases hu; exact ⟨c, rfl, rfl⟩
    subst hu
    have hil := (List.getElem?_eq_some_iff.mp hmi).1
    obtain ⟨hplace, hnames, htl, hwl⟩ := hm _ (List.mem_of_getElem? hmi)
    dsimp only at hplace hnames htl hwl
    have nx := T0_next (F := F) (Ws := ms.map (·.2)) (i := i) (W := W) (by rw [List.getElem?_map, hmi]; rfl)
    have hok := T0_ok hF (hw i)
    have hcnt := T0_cnt F ((ms.map (·.2)).take i) (Nat.le_trans (by rw [List.map_take]; exact sum_take _ i) hc)
    have hvs := T0_vs F ((ms.map (·.2)).take i) ([], [], [F])
    have J := T0_jn F ((ms.map (·.2)).take i)
    rw [List.length_take] at hvs
    change (T0 F ((ms.map (·.2)).take i)).1.length = _ at hvs
    generalize T0 F ((ms.map (·.2)).take i) = T at nx hok hcnt hvs J hle
    have hvl : T.1.length ≤ 64 := by rw [hvs]; simp; (clear hle J hvs hcnt hok nx hwl htl hnames hplace hu hmi hi σ hw aV aD aO aF hFe hro hC C F_ fd hmm hb h K X Q hc hm hFl hF o fs a23 a22 a18 a17 a16 a15 a14 a13 a9 g T W t F hil; (first | lia | omega))
    clear hvs
    unfold stepT at nx
    have lV : (T.1.map wordV).length = T.1.length := List.length_map ..
    have lD : (pe o T.2.2).length = T.2.2.length := by rw [List.length_map, List.length_map]
    have lF : (pe o (T.2.1.map (·.1))).length = T.2.1.length := by rw [List.length_map, List.length_map, List.length_map]
    have lO : ((T.2.1.map fun p => (p.2 : Int)).map V.int).length = T.2.1.length := by rw [List.length_map, List.length_map]
    refine TAs.name (by walk_at "pl st") ?_
    refine TSs.le hle.both ?_
    clear hle σ
    have hjl := jn1_len (enc F) t
    have hnl := normS_len (jn1 (enc F) t)
    have hel := enc_len W
    refine TSs.cons ?_
    refine TS.assign (by walk_at "pl st") ?_
    refine TE.callG hC fs.f18 (by kernel_rfl) (by kernel_rfl) ?_
    refine TArgs.consR rfl ?_
    refine TE.listF ?_
    refine TArgs.consR rfl ?_
    refine TE.callG hC fs.f17 (by kernel_rfl) (by kernel_rfl) ?_
    refine TArgs.consR rfl ?_
    refine TE.callS hC fs.f14 (by kernel_rfl) (by kernel_rfl) ?_
    repeat (walk_at "pl e")
    refine CallV.fnI hC (join_ok fs.f14 fs.f9 fs.f13 hb (bs := [t]) (by simp [sumL]; (clear hel hnl hjl lO lF lD lV hvl J hcnt hok nx hwl hnames hplace hil hu hmi hi hw aV aD aO aF hro hC C F_ fd hmm hb h K X Q hc hml hm hFl hF fs a23 a22 a18 a17 a16 a15 a14 a13 a9 g T W i ms o; (first | lia | omega))) ?_) (by decide)
    rw [show joinP (enc F) [t] = jn1 (enc F) t from rfl]
    refine TArgs.nil ?_
    refine CallV.fnI hC (normpath_ok fs.f17 fs.f9 fs.f15 hb (by (clear hel hnl lO lF lD lV hvl J hcnt hok nx hwl hnames hplace hil hu hmi hi hw aV aD aO aF hro hC C F_ fd hmm hb h K X Q hc hml hm hFl hF fs a23 a22 a18 a17 a16 a15 a14 a13 a9 g T W i ms o; (first | lia | omega))) fun H1 hH1 => ?_) (by decide)
    refine TArgs.nil ⟨by simp, ?_⟩
    refine TArgs.nil ?_
    refine CallV.fnI hC (commonpath_okR fs.f18 fs.f9 hb (ps := [normS (jn1 (enc F) t)]) (by simp) (by simp) (by simp; (clear hH1 H1 hel lO lF lD lV hvl J hcnt hok nx hwl hnames hplace hil hu hmi hi hw aV aD aO aF hro hC C F_ fd hmm hb h K X Q hc hml hm hFl hF fs a23 a22 a18 a17 a16 a15 a14 a13 a9 g T W i ms o; (first | lia | omega))) (fun p hp => by rw [List.mem_singleton.mp hp]; rfl) (fun H2 hH2 => ?_)) (by decide)
    rw [hplace]
    refine TSs.le (σ' := ⟨S9 o F aV aD aO aF [("place", encV o W)], L9 aV aD aO aF o T K⟩) ⟨by walk_at "pl lo", hH1.trans hH2⟩ ?_
    clear hH1 hH2 H1 H2 hplace hjl hnl htl hmi hu
    refine TSs.cons ?_
    refine TS.assign (by walk_at "pl st") ?_
    refine TE.callG hC fs.f22 (by kernel_rfl) (by kernel_rfl) ?_
    repeat (walk_at "pl e")
    refine CallV.fnI hC (above_ok fs.f22 fs.f16 fs.f9 fs.f13 hb hF hnames (by (clear hel lO lF lD lV hvl J hcnt hok nx hnames hil t hi hw aV aD aO aF hFe hro hC C F_ fd hmm hb h K X Q hc hml hm hF fs a23 a22 a18 a17 a16 a15 a14 a13 a9 g T i ms o; (first | lia | omega))) ?_) (by decide)
    rw [pe_of]
    obtain ⟨A, hA⟩ : ∃ A, A = abvN (if W.take F.length = F then F.length else 0) W := ⟨_, rfl⟩
    rw [← hA]
    have hAl : A.length ≤ 500 := by rw [hA, abv_len]; split <;> (clear hA A hel lO lF lD lV hvl J hcnt hok nx hnames hil t hi hw aV aD aO aF hFe hro hC C F_ fd hmm hb h K X Q hc hml hm hF fs a23 a22 a18 a17 a16 a15 a14 a13 a9 g T i ms o hFl; (first | lia | omega))
    refine TSs.le (σ' := ⟨S9 o F aV aD aO aF [("place", encV o W), ("above", .lst (pe o A))], L9 aV aD aO aF o T K⟩) ⟨by walk_at "pl lo", List.Sublist.refl _⟩ ?_
    refine TSs.cons ?_
    refine TS.if_ ?_
    refine TB.cut (P := fun b σ' => b = decide (W.take F.length ≠ F) ∧ Le ⟨S9 o F aV aD aO aF [("place", encV o W), ("above", .lst (pe o A))], L9 aV aD aO aF o T K⟩ σ') ?_ ?_
    · refine TB.cmp ?_
      refine TE.callG hC fs.f18 (by kernel_rfl) (by kernel_rfl) ?_
      repeat (walk_at "pl e")
      refine ⟨by simp, ?_⟩
      repeat (walk_at "pl e")
      refine CallV.fnI hC (commonpath_okR fs.f18 fs.f9 hb (ps := [enc F, enc W]) (by simp) (by simp) (by simp; (clear hAl hA lO lF lD lV hvl J hcnt hok nx hnames hil t hi hw aV aD aO aF hro hC C F_ fd hmm hb h K X Q hc hml hm hFl hF fs a23 a22 a18 a17 a16 a15 a14 a13 a9 g A T i ms o; (first | lia | omega))) (fun p hp => ?_) (fun H2 hH2 => ?_)) (by decide)
      · simp only [List.mem_cons, List.not_mem_nil, or_false] at hp
        rcases hp with rfl | rfl <;> rfl
      · repeat (walk_at "pl e")
        exact ⟨cp_two_enc hF hnames, by walk_at "pl lo", hH2⟩
    rintro _ σ' ⟨rfl, hle⟩
    have fin : ∀ T' : StT, T0 F ((ms.map (·.2)).take (i + 1)) = T' → ∀ σ, Le ⟨S9 o F aV aD aO aF [], L9 aV aD aO aF o T' K⟩ σ → i + 1 ≤ ms.length ∧ Le ⟨S9 o F aV aD aO aF [], L9 aV aD aO aF o (T0 F ((ms.map (·.2)).take (i + 1))) K⟩ σ := fun T' e σ q => ⟨hil, by rw [e]; exact q⟩
    refine ite_b (fun c0 => ?_) (fun c0 => ?_)
    · rw [if_pos (of_decide_eq_true c0)] at nx
      refine TSs.le hle ?_
      refine TSs.cons ?_
      refine TS.expr ?_
      refine TE.appendM ?_
      repeat (walk_at "pl e")
      refine ⟨aV, _, rfl, List.mem_cons_self, ?_⟩
      refine TArgs.consR rfl ?_
      refine TE.const_str ?_
      refine TArgs.nil ⟨_, _, _, rfl, .head, by (clear c0 fin hle σ' hAl hA hel lO lF lD J hcnt hok nx hwl hnames hil t hi hw aV aD aO aF hFe hro hC C F_ fd hmm hb h K X Q hc hml hm hFl hF fs a23 a22 a18 a17 a16 a15 a14 a13 a9 g A W i ms F o; (first | lia | omega)), ?_⟩
      refine TSs.nil (TSs.nil (fin _ nx _ ⟨by walk_at "pl lo", ?_⟩))
      unfold L9
      rw [List.map_append]
      exact List.Sublist.refl _
    have c0 : W.take F.length = F := Classical.byContradiction fun q => c0 (decide_eq_true q)
    rw [if_neg (not_not_intro c0)] at nx
    rw [if_pos c0] at hA
    have hpre := take_iff.mp c0
    have hAn : ∀ d ∈ A, names? d := fun d hd => by
      rw [hA] at hd
      obtain ⟨j, _, rfl⟩ := List.mem_map.mp hd
      exact names_take hnames _
    refine TSs.le hle ?_
    clear hle σ'
    refine TSs.cons ?_
    repeat (walk_at "pl e")
    refine Cmp.inT (ps := T.2.2.map enc) (.mt (.tail _ (.head _))) ?_
    refine ⟨_, rfl, ?_⟩
    rw [show decide (enc W ∈ T.2.2.map enc) = decide (W ∈ T.2.2) from decide_eq_decide.mpr (enc_mem hok.d hnames)]
    refine ite_b (fun c1 => ?_) (fun c1 => ?_)
    · rw [if_pos (of_decide_eq_true c1)] at nx
      refine TSs.cons ?_
      refine TS.expr ?_
      refine TE.appendM ?_
      repeat (walk_at "pl e")
      refine ⟨aV, _, rfl, List.mem_cons_self, ?_⟩
      refine TArgs.consR rfl ?_
      refine TE.const_str ?_
      refine TArgs.nil ⟨_, _, _, rfl, .head, by (first | lia | omega), ?_⟩
      refine TSs.nil (TSs.nil (TSs.nil (fin _ nx _ ⟨by walk_at "pl lo", ?_⟩)))
      unfold L9
      rw [List.map_append]
      exact List.Sublist.refl _
    have c1 : W ∉ T.2.2 := fun q => c1 (decide_eq_true q)
    rw [if_neg c1] at nx
    refine TSs.cons ?_
    refine TS.if_ ?_
    refine TB.cut (P := fun b σ' => b = decide (∃ x ∈ A, x ∈ T.2.1.map (·.1)) ∧ Le ⟨S9 o F aV aD aO aF [("place", encV o W), ("above", .lst (pe o A))], L9 aV aD aO aF o T K⟩ σ') ?_ ?_
    · refine TB.cmp ?_
      refine TE.listcompF hC (by walk_at "pl comp") ?_
      repeat (walk_at "pl e")
      refine ⟨List Nat, A.map enc, .txt o, fun d => if decide (d ∈ (T.2.1.map (·.1)).map enc) = true then some (.txt o d) else none, [("files", .ref aF)], L9 aV aD aO aF o T K, _, Walk.lst, fun _ _ => trivial, List.Sublist.refl _, by walk_at "pl lf", by rw [List.length_map]; (first | lia | omega), ?_, ?_⟩
      · intro C' hC' d hd
        refine TAs.name (hC'.stL (by kernel_rfl)) ?_
        refine TIfs.one ?_
        repeat (walk_at "pl e")
        refine Cmp.inT (ps := (T.2.1.map (·.1)).map enc) (.mt (.tail _ (.tail _ (.tail _ (.head _))))) ?_
        refine ⟨_, rfl, ?_⟩
        refine ite_b (fun c => ?_) (fun c => ?_)
        · rw [if_pos c]
          repeat (walk_at "pl e")
          exact ⟨rfl, by walk_at "pl lo", List.Sublist.refl _⟩
        · rw [if_neg c]
          exact ⟨rfl, by walk_at "pl lo", List.Sublist.refl _⟩
      rw [filterMap_if (V.txt o) (fun d => decide (d ∈ (T.2.1.map (·.1)).map enc))]
      refine TE.listF ?_
      refine TArgs.nil ⟨by simp, ?_⟩
      refine Cmp.neL (.fz _) (.fz _) (EqRs.txts o _ []) ?_
      refine ⟨_, rfl, ?_, by walk_at "pl lo", List.Sublist.refl _⟩
      rw [Bool.eq_iff_iff, decide_eq_true_iff, Bool.not_eq_true', beq_eq_false_iff_ne, filter_ne]
      constructor
      · rintro ⟨x, hx, hx2⟩
        obtain ⟨d, hd, rfl⟩ := List.mem_map.mp hx
        exact ⟨d, hd, (enc_mem hok.f (hAn d hd)).mp (of_decide_eq_true hx2)⟩
      · rintro ⟨d, hd, hx2⟩
        exact ⟨enc d, List.mem_map_of_mem hd, decide_eq_true ((enc_mem hok.f (hAn d hd)).mpr hx2)⟩
    rintro _ σ' ⟨rfl, hle⟩
    rw [← hA] at nx
    refine ite_b (fun c2 => ?_) (fun c2 => ?_)
    · rw [if_pos (of_decide_eq_true c2)] at nx
      refine TSs.le hle ?_
      refine TSs.cons ?_
      refine TS.expr ?_
      refine TE.appendM ?_
      repeat (walk_at "pl e")
      refine ⟨aV, _, rfl, List.mem_cons_self, ?_⟩
      refine TArgs.consR rfl ?_
      refine TE.const_str ?_
      refine TArgs.nil ⟨_, _, _, rfl, .head, by (first | lia | omega), ?_⟩
      refine TSs.nil (TSs.nil (TSs.nil (TSs.nil (fin _ nx _ ⟨by walk_at "pl lo", ?_⟩))))
      unfold L9
      rw [List.map_append]
      exact List.Sublist.refl _
    rw [if_neg (fun q => c2 (decide_eq_true q))] at nx
    refine TSs.le hle ?_
    clear hle σ' c2
    obtain ⟨n, hn⟩ : ∃ n, n = T.1.length := ⟨_, rfl⟩
    rw [← hn] at nx
    refine TSs.cons ?_
    refine TS.cut (P := fun fl σ' => fl = .next ∧ ∃ (ws : List Nm) (os : List Int) (j : Nat), ws[j]? = some W ∧ (∀ i : Nat, i < j → ws[i]? ≠ some W) ∧ ws = (putF T.2.1 W n).map (·.1) ∧ os.set j (n : Int) = (putF T.2.1 W n).map (fun p => (p.2 : Int)) ∧ os.length = ws.length ∧ ws.length ≤ 100 ∧ (∀ d ∈ ws, names? d) ∧
      Le ⟨S9 o F aV aD aO aF [("place", encV o W), ("above", .lst (pe o A))], (aV, .list (T.1.map wordV)) :: (aD, .list (pe o T.2.2)) :: (aO, .list (os.map .int)) :: (aF, .list (pe o ws)) :: K⟩ σ') ?_ ?_
    · repeat (walk_at "pl e")
      refine Cmp.notInT (ps := (T.2.1.map (·.1)).map enc) (.mt (.tail _ (.tail _ (.tail _ (.head _))))) ?_
      refine ⟨_, rfl, ?_⟩
      rw [show decide (enc W ∈ (T.2.1.map (·.1)).map enc) = decide (W ∈ T.2.1.map (·.1)) from decide_eq_decide.mpr (enc_mem hok.f hnames)]
      refine ite_b (fun c3 => ?_) (fun c3 => ?_)
      · have c3 : W ∉ T.2.1.map (·.1) := by simpa using c3
        refine TSs.cons ?_
        refine TS.expr ?_
        refine TE.appendM ?_
        repeat (walk_at "pl e")
        refine ⟨aF, _, rfl, (.tail _ (.tail _ (.tail _ (.head _)))), ?_⟩
        repeat (walk_at "pl e")
        refine ⟨_, _, _, rfl, .tail (.tail (.tail .head)), by (first | lia | omega), ?_⟩
        refine TSs.cons ?_
        refine TS.expr ?_
        refine TE.appendM ?_
        repeat (walk_at "pl e")
        refine ⟨aO, _, rfl, (.tail _ (.tail _ (.head _))), ?_⟩
        repeat (walk_at "pl e")
        refine ⟨_, _, _, rfl, .tail (.tail .head), by (first | lia | omega), ?_⟩
        refine TSs.nil ⟨rfl, T.2.1.map (·.1) ++ [W], (T.2.1.map fun p => (p.2 : Int)) ++ [-1], T.2.1.length, ?_, ?_, ?_, ?_, ?_, ?_, ?_, ?_⟩
        · rw [show T.2.1.length = (T.2.1.map (·.1)).length from (List.length_map ..).symm]; exact List.getElem?_concat_length
        · intro i hi q
          rw [List.getElem?_append_left (by rw [List.length_map]; exact hi)] at q
          exact c3 (List.mem_of_getElem? q)
        · rw [put_firsts, if_neg c3]
        · unfold putF
          rw [if_neg c3, List.map_append, List.set_append_right _ _ (by rw [List.length_map]; exact Nat.le_refl _), List.length_map, Nat.sub_self]; rfl
        · rw [List.length_append, List.length_append, List.length_map, List.length_map]; rfl
        · rw [List.length_append, List.length_map, List.length_singleton]; (first | lia | omega)
        · intro d hd
          rcases List.mem_append.mp hd with e | e
          · exact hok.f d e
          · rw [List.mem_singleton.mp e]; exact hnames
        · refine ⟨by walk_at "pl lo", ?_⟩
          unfold pe
          rw [List.map_append, List.map_append, List.map_append]
          exact List.Sublist.refl _
      · have c3 : W ∈ T.2.1.map (·.1) := by simpa using c3
        obtain ⟨j, hj1, hj2⟩ := first_at c3
        refine TSs.nil ⟨rfl, T.2.1.map (·.1), T.2.1.map fun p => (p.2 : Int), j, hj1, hj2, by rw [put_firsts, if_pos c3], put_set J.nd hj1, by rw [List.length_map, List.length_map], by rw [List.length_map]; (first | lia | omega), hok.f, by walk_at "pl lo", List.Sublist.refl _⟩
    rintro _ σ' ⟨rfl, ws, os, j, hj1, hj2, hws, hos, hlen, hwl2, hwn, hle⟩
    refine TSs.le hle ?_
    clear hle σ'
    obtain ⟨k1, k2⟩ := enc_first hwn hnames hj1 hj2
    have hjl := (List.getElem?_eq_some_iff.mp hj1).1
    have lW : (pe o ws).length = ws.length := by rw [List.length_map, List.length_map]
    refine TSs.cons ?_
    refine TS.assignSub ?_
    repeat (walk_at "pl e")
    refine call_len_list (.mt List.mem_cons_self) (by (first | lia | omega)) ?_
    rw [lV, ← hn]
    repeat (walk_at "pl e")
    refine TE.indexM ?_
    repeat (walk_at "pl e")
    refine ⟨pe o ws, .mt (.tail _ (.tail _ (.tail _ (.head _)))), ?_⟩
    repeat (walk_at "pl e")
    refine call_indexT (ps := ws.map enc) (.mt (.tail _ (.tail _ (.tail _ (.head _))))) (by rw [List.length_map]; (first | lia | omega)) k1 k2 ?_
    refine Put.led (.tail (.tail .head)) (by rw [List.length_map]; (first | lia | omega)) (by rw [List.length_map]; (first | lia | omega)) ?_
    refine TSs.cons ?_
    refine TS.expr ?_
    refine TE.extendM ?_
    repeat (walk_at "pl e")
    refine ⟨aD, _, rfl, .tail _ (.head _), ?_⟩
    refine TArgs.consR rfl ?_
    refine TE.listcompF hC (by walk_at "pl comp") ?_
    repeat (walk_at "pl e")
    refine ⟨Nm, A, encV o, fun d => if notIn T.2.2 d = true then some (encV o d) else none, [("folders", .ref aD)], _, _, by rw [pe_of]; exact Walk.lst, fun _ _ => trivial, List.Sublist.refl _, by walk_at "pl lf", by (first | lia | omega), ?_, ?_⟩
    · intro C' hC' d hd
      refine TAs.name (hC'.stL (by kernel_rfl)) ?_
      refine TIfs.one ?_
      repeat (walk_at "pl e")
      refine Cmp.notInT (ps := T.2.2.map enc) (.mt (.tail _ (.head _))) ?_
      refine ⟨_, rfl, ?_⟩
      have e : (!decide (enc d ∈ T.2.2.map enc)) = notIn T.2.2 d := by
        rw [show decide (enc d ∈ T.2.2.map enc) = decide (d ∈ T.2.2) from decide_eq_decide.mpr (enc_mem hok.d (hAn d hd))]
        unfold notIn
        simp
      rw [e]
      refine ite_b (fun c => ?_) (fun c => ?_)
      · rw [if_pos c]
        repeat (walk_at "pl e")
        exact ⟨rfl, by walk_at "pl lo", List.Sublist.refl _⟩
      · rw [if_neg c]
        exact ⟨rfl, by walk_at "pl lo", List.Sublist.refl _⟩
    rw [filterMap_if (encV o) (notIn T.2.2)]
    have hfl := List.length_filter_le (notIn T.2.2) A
    refine TArgs.nil ⟨_, _, _, _, rfl, .inl (.fz _), .tail .head, by rw [lD, List.length_map]; (first | lia | omega), ?_⟩
    refine TSs.cons ?_
    refine TS.expr ?_
    refine TE.appendM ?_
    repeat (walk_at "pl e")
    refine ⟨aV, _, rfl, List.mem_cons_self, ?_⟩
    refine TArgs.consR rfl ?_
    refine TE.const_str ?_
    refine TArgs.nil ⟨_, _, _, rfl, .head, by (first | lia | omega), ?_⟩
    refine TSs.nil (TSs.nil (TSs.nil (TSs.nil (fin _ nx _ ⟨by walk_at "pl lo", ?_⟩))))
    unfold L9
    dsimp only
    rw [← hws, ← hos, List.map_append, ← List.map_set, pe_of]
    unfold pe
    rw [List.map_append, List.map_append]
    exact List.Sublist.refl _
  rintro _ σ' ⟨rfl, hle⟩
  refine TSs.le hle ?_
  clear hle σ'
  have hcnt := T0_cnt F (ms.map (·.2)) hc
  have hok := T0_ok hF (Ws := ms.map (·.2)) (fun W hW => by obtain ⟨m, h1, rfl⟩ := List.mem_map.mp hW; exact (hm m h1).names)
  have J := T0_jn F (ms.map (·.2))
  generalize T0 F (ms.map (·.2)) = T at h hcnt hok J
  have lF : (pe o (T.2.1.map (·.1))).length = T.2.1.length := by rw [List.length_map, List.length_map, List.length_map]
  have lO : ((T.2.1.map fun p => (p.2 : Int)).map V.int).length = T.2.1.length := by rw [List.length_map, List.length_map]
  obtain ⟨sm1, sm2⟩ := J.small hcnt
  refine TSs.cons ?_
  refine TS.ret ?_
  refine TE.tuple ?_
  refine TArgs.consR rfl ?_
  refine TE.freeze ?_
  repeat (walk_at "pl e")
  refine ⟨aV, _, _, rfl, .head, ?_⟩
  refine TArgs.consR rfl ?_
  refine TE.callB hC (by kernel_rfl) hb (by decide +kernel) boot_sorted Kept.biA ?_
  refine TArgs.consR rfl ?_
  refine TE.listcompF hC (by walk_at "pl comp") ?_
  repeat (walk_at "pl e")
  refine call_len_list (.mt (.tail _ (.tail _ (.head _)))) (by (clear sm2 J hok hcnt h hw aV aD aO aF hFe hro hC C F_ fd hmm hb K X Q hc hml hm hFl hF fs a23 a22 a18 a17 a16 a15 a14 a13 a9 g ms F lO; (first | lia | omega))) ?_
  rw [lF]
  repeat (walk_at "pl e")
  refine call_range1 ?_
  refine ⟨Nat, List.range T.2.1.length, fun k => .int (k : Int), fun k => some (pairT o (enc ((T.2.1[k]?).getD ([], 0)).1, ((T.2.1[k]?).getD ([], 0)).2)), [("files", .ref aF), ("owners", .ref aO)], _, _, Walk.rngN (by (clear sm2 J hok hcnt h hw aV aD aO aF hFe hro hC C F_ fd hmm hb K X Q hc hml hm hFl hF fs a23 a22 a18 a17 a16 a15 a14 a13 a9 g ms F lO lF o; (first | lia | omega))), fun _ _ => trivial, List.Sublist.refl _, by walk_at "pl lf", by rw [List.length_range]; (clear sm2 J hok hcnt h hw aV aD aO aF hFe hro hC C F_ fd hmm hb K X Q hc hml hm hFl hF fs a23 a22 a18 a17 a16 a15 a14 a13 a9 g ms F lO lF o; (first | lia | omega)), ?_, ?_⟩
  · intro C' hC' k hk
    have hk := List.mem_range.mp hk
    have e : T.2.1[k]? = some T.2.1[k] := List.getElem?_eq_getElem hk
    refine TAs.name (hC'.stL (by kernel_rfl)) ?_
    refine TIfs.nil ?_
    refine ite_t rfl ?_
    repeat (walk_at "pl e")
    refine Item.listN (.mt (.tail _ (.tail _ (.head _)))) (by (first | lia | omega)) (j := k) (u := encV o T.2.1[k].1) (by rw [List.getElem?_map, List.getElem?_map, List.getElem?_map, e]; rfl) ?_
    repeat (walk_at "pl e")
    refine Item.listN (.mt (.tail _ (.head _))) (by (first | lia | omega)) (j := k) (u := .int (T.2.1[k].2 : Int)) (by rw [List.getElem?_map, List.getElem?_map, e]; rfl) ?_
    repeat (walk_at "pl e")
    refine ⟨by simp, ?_⟩
    rw [e]
    exact ⟨rfl, by walk_at "pl lo", List.Sublist.refl _⟩
  rw [filterMap_some]
  have e1 : ((List.range T.2.1.length).map fun k => pairT o (enc ((T.2.1[k]?).getD ([], 0)).1, ((T.2.1[k]?).getD ([], 0)).2)) = (T.2.1.map fun p => (enc p.1, p.2)).map (pairT o) := by
    apply List.ext_getElem?
    intro k
    rw [List.getElem?_map, List.getElem?_map, List.getElem?_map]
    by_cases hk : k < T.2.1.length
    · rw [List.getElem?_range hk, List.getElem?_eq_getElem hk]
      show some (pairT o (enc ((T.2.1[k]?).getD ([], 0)).1, ((T.2.1[k]?).getD ([], 0)).2)) = some (pairT o (enc T.2.1[k].1, T.2.1[k].2))
      rw [List.getElem?_eq_getElem hk]; rfl
    · rw [List.getElem?_eq_none (by simpa using hk), List.getElem?_eq_none (by (clear sm2 sm1 J hok hcnt h hw aV aD aO aF hFe hro hC C F_ fd hmm hb K X Q hc hml hm hFl hF fs a23 a22 a18 a17 a16 a15 a14 a13 a9 g lF ms F lO o; (first | lia | omega)))]; rfl
  rw [e1]
  refine TArgs.nil ?_
  refine call_sortedP (.fz _) (by rw [List.length_map]; exact sm1) ?_ fun qs p1 p2 => ?_
  · rw [List.map_map]
    have : (T.2.1.map ((fun x : List Nat × Nat => x.1) ∘ fun p => (enc p.1, p.2))) = (T.2.1.map (·.1)).map enc := by rw [List.map_map]; rfl
    rw [this]
    unfold List.Nodup
    rw [List.pairwise_map]
    exact List.Pairwise.imp_of_mem (fun {a b} ha hb hab e => hab (enc_inj (hok.f a ha) (hok.f b hb) e)) J.nd
  refine TArgs.consR rfl ?_
  refine TE.callB hC (by kernel_rfl) hb (by decide +kernel) boot_sorted Kept.biA ?_
  repeat (walk_at "pl e")
  refine call_sortedT (ps := T.2.2.map enc) (.mt (.head _)) (by rw [List.length_map]; exact sm2) fun es p3 p4 => ?_
  refine TArgs.nil ⟨by simp, ?_⟩
  exact h qs es p1 p2 p3 p4 _ (.cons _ (.cons _ (.cons _ (List.Sublist.refl _))))
end PL

end
section
open PySem PySem.Calls PyProof.Rows
set_option Elab.async false
set_option linter.unusedVariables false
set_option linter.unusedSimpArgs false
set_option maxRecDepth 100000
set_option maxHeartbeats 4000000

namespace PL

noncomputable abbrev wayV (W : Nm) : V := .lst (W.map (.txt false))
noncomputable abbrev keptV (p : Nm × Nat) : V := .tup [wayV p.1, .int (p.2 : Int)]
theorem EqRs.empty : ∀ vs : List V, EqRs vs [] vs.isEmpty
  | [] => .nil
  | _ :: _ => .right _ _
theorem stepD_len (F : Nm) (D : StD) (W : Nm) : (stepD F D W).1.length = D.1.length + 1 ∧ (stepD F D W).2.length ≤ D.2.length + 1 ∧ ∀ p ∈ (stepD F D W).2, p ∈ D.2 ∨ p.1 = W := by
  unfold stepD
  split
  · exact ⟨by simp, Nat.le_succ _, fun p hp => .inl hp⟩
  split
  · exact ⟨by simp, Nat.le_succ _, fun p hp => .inl hp⟩
  split
  · exact ⟨by simp, Nat.le_succ _, fun p hp => .inl hp⟩
  · refine ⟨by simp, ?_, fun p hp => ?_⟩
    · rw [List.length_append, List.length_singleton]
      exact Nat.succ_le_succ (List.length_filter_le _ _)
    · rcases List.mem_append.mp hp with e | e
      · exact .inl (List.mem_filter.mp e).1
      · rw [List.mem_singleton.mp e]; exact .inr rfl
theorem D0_len (F : Nm) : ∀ (Ws : List Nm) (D : StD), (Ws.foldl (stepD F) D).1.length = D.1.length + Ws.length ∧ (Ws.foldl (stepD F) D).2.length ≤ D.2.length + Ws.length ∧ ∀ p ∈ (Ws.foldl (stepD F) D).2, p ∈ D.2 ∨ p.1 ∈ Ws
  | [], D => ⟨rfl, Nat.le_refl _, fun p hp => .inl hp⟩
  | W :: Ws, D => by
    obtain ⟨a, b, c⟩ := stepD_len F D W
    obtain ⟨a2, b2, c2⟩ := D0_len F Ws (stepD F D W)
    rw [List.foldl_cons, List.length_cons]
    refine ⟨by (clear c2 b2 c b; (first | lia | omega)), by (clear c2 a2 c a; (first | lia | omega)), fun p hp => ?_⟩
    rcases c2 p hp with e | e
    · rcases c p e with e | e
      · exact .inl e
      · exact .inr (e ▸ List.mem_cons_self)
    · exact .inr (List.mem_cons_of_mem _ e)
theorem D0_next {F : Nm} {Ws : List Nm} {i : Nat} {W : Nm} (h : Ws[i]? = some W) : D0 F (Ws.take (i + 1)) = stepD F (D0 F (Ws.take i)) W := by
  unfold D0; rw [List.take_add_one, h, List.foldl_append]; rfl
noncomputable abbrev charsN (W : Nm) : Prop := ∀ p ∈ W, ∀ c ∈ p, c < 256
theorem plain_way {W : Nm} (h : charsN W) : plainV (wayV W) = true := plain_texts fun p hp c hc => by have := h p hp c hc; (clear hc hp p h W; (first | lia | omega))
theorem any_way {d : Nm} : ∀ ds : List Nm, ((toDs (ds.map wayV)).any fun y => PyData.eqv y (toD (wayV d))) = decide (d ∈ ds)
  | [] => by simp [toDs]
  | x :: ds => by
    have e : PyData.eqv (toD (wayV x)) (toD (wayV d)) = decide (x = d) := by
      show PyData.eqv (.list (toDs (x.map (.txt false)))) (.list (toDs (d.map (.txt false)))) = _
      simp only [PyData.eqv]
      exact eqv_texts x d
    rw [List.map_cons]
    show (toD (wayV x) :: toDs (ds.map wayV)).any _ = _
    rw [List.any_cons, any_way ds, e, Bool.eq_iff_iff, Bool.or_eq_true, decide_eq_true_iff, decide_eq_true_iff, decide_eq_true_iff, List.mem_cons]
    exact or_congr_left eq_comm
theorem due_ok {g : Gd} {a : Addr} (hf : Fn g P9 25 a) (hb : Free g BI) {F : Nm} (hFl : F.length ≤ 100) (hFc : charsN F) {Ws : List Nm} (hW : ∀ W ∈ Ws, W.length ≤ 500 ∧ charsN W) (hWl : Ws.length ≤ 64) {Q : V → Led → Prop} {X : XL} {K : Led}
    (h : Q (.tup [.lst ((D0 F Ws).1.map wordV), .lst ((D0 F Ws).2.map keptV), .lst ((dirsD F (D0 F Ws).2).map wayV)]) K) : CallT g (0 + 1) (.ref a) [wayV F, .lst (Ws.map wayV)] Q X K := by
  obtain ⟨hmm, fd, F_⟩ := hf
  refine CallT.def_ F_ (by rw [pars25]; rfl) fun C hC hro => ?_
  rw [pars25]
  refine TSs.le (start2 (by decide)) ?_
  have lF : (F.map (V.txt false)).length = F.length := List.length_map ..
  refine TSs.cons ?_
  refine TS.swap2 hC (by kernel_rfl) (by kernel_rfl) (by decide +kernel) ?_
  refine TArgs.consR rfl ?_
  refine TE.listF ?_
  refine TArgs.nil ⟨by simp, ?_⟩
  refine TArgs.consR rfl ?_
  refine TE.listM ?_
  refine TArgs.nil ⟨by simp, fun aV => ?_⟩
  refine TArgs.nil ⟨by simp, _, _, rfl, ?_⟩
  refine TSs.le (σ' := ⟨[("folder", wayV F), ("ways", .lst (Ws.map wayV)), ("kept", .lst (([] : Fo).map keptV)), ("verdicts", .ref aV)], (aV, .list (([] : List Nat).map wordV)) :: K⟩) ⟨by walk_at "pl lo", List.Sublist.refl _⟩ ?_
  refine TSs.cons ?_
  refine TS.cut (P := fun fl σ' => fl = .next ∧ Le ⟨[("folder", wayV F), ("kept", .lst ((D0 F Ws).2.map keptV)), ("verdicts", .ref aV)], (aV, .list ((D0 F Ws).1.map wordV)) :: K⟩ σ') ?_ ?_
  · refine TS.for_ hC.calm ?_
    repeat (walk_at "pl e")
    refine ⟨_, _, Walk.lst, fun i σ => i ≤ Ws.length ∧ Le ⟨[("folder", wayV F), ("kept", .lst ((D0 F (Ws.take i)).2.map keptV)), ("verdicts", .ref aV)], (aV, .list ((D0 F (Ws.take i)).1.map wordV)) :: K⟩ σ, ⟨Nat.zero_le _, by walk_at "pl lo", List.Sublist.refl _⟩, fun _ _ _ => trivial, ?_, ?_⟩
    rotate_left
    · rintro σ ⟨_, hle⟩
      rw [List.length_map, List.take_length] at hle
      exact TSs.nil ⟨rfl, hle⟩
    rintro i u σ hu ⟨hi, hle⟩
    rw [List.getElem?_map] at hu
    obtain ⟨W, hWi, hu⟩ : ∃ W, Ws[i]? = some W ∧ u = wayV W := by
      cases e : Ws[i]? with
      | none => rw [e] at hu; cases hu
      | some c => rw [e] at hu; cases hu; exact ⟨c, rfl, rfl⟩
    subst hu
    have hil := (List.getElem?_eq_some_iff.mp hWi).1
    obtain ⟨hwl, hwc⟩ := hW W (List.mem_of_getElem? hWi)
    have nx := D0_next (F := F) hWi
    obtain ⟨d1, d2, d3⟩ := D0_len F (Ws.take i) ([], [])
    rw [List.length_take] at d1 d2
    change (D0 F (Ws.take i)).1.length = _ at d1
    change (D0 F (Ws.take i)).2.length ≤ _ at d2
    change ∀ p ∈ (D0 F (Ws.take i)).2, _ at d3
    have hkl : ∀ p ∈ (D0 F (Ws.take i)).2, p.1.length ≤ 500 := fun p hp => by
      rcases d3 p hp with e | e
      · cases e
      · exact (hW _ (List.mem_of_mem_take e)).1
    clear d3
    generalize D0 F (Ws.take i) = D at nx d1 d2 hkl hle
    have hv : D.1.length ≤ 64 := by rw [d1]; simp; (clear hle hkl d2 d1 nx hwc hwl hu hWi hi σ aV lF hro hC C F_ fd hmm h K X Q hW hFc hFl hb a g D W F hil; (first | lia | omega))
    have hk : D.2.length ≤ 64 := by refine Nat.le_trans d2 ?_; simp; (clear hle hkl d2 nx hwc hwl hil hu hWi hi σ aV lF hro hC C F_ fd hmm h K X Q hWl hW hFc hFl hb a g W F; (first | lia | omega))
    clear d1 d2 hu hWi
    unfold stepD at nx
    have lV : (D.1.map wordV).length = D.1.length := List.length_map ..
    have lK : (D.2.map keptV).length = D.2.length := List.length_map ..
    have lW : (W.map (V.txt false)).length = W.length := List.length_map ..
    have fin : ∀ D' : StD, D0 F (Ws.take (i + 1)) = D' → ∀ σ, Le ⟨[("folder", wayV F), ("kept", .lst (D'.2.map keptV)), ("verdicts", .ref aV)], (aV, .list (D'.1.map wordV)) :: K⟩ σ → i + 1 ≤ Ws.length ∧ Le ⟨[("folder", wayV F), ("kept", .lst ((D0 F (Ws.take (i + 1))).2.map keptV)), ("verdicts", .ref aV)], (aV, .list ((D0 F (Ws.take (i + 1))).1.map wordV)) :: K⟩ σ := fun D' e σ q => ⟨hil, by rw [e]; exact q⟩
    refine TAs.name (by walk_at "pl st") ?_
    refine TSs.le hle.both ?_
    clear hle σ
    refine TSs.cons ?_
    repeat (walk_at "pl e")
    refine call_len_list (.fz _) (by (clear fin lW lK lV hk hv hkl nx hwc hwl hil hi aV hro hC C F_ fd hmm h K X Q hWl hW hFc hb a g D W i Ws; (first | lia | omega))) ?_
    rw [lF]
    refine ⟨_, rfl, ?_⟩
    repeat (walk_at "pl e")
    refine Slc.list (.fz _) (by (clear fin lK lV hk hv hkl nx hwc hil hi aV lF hro hC C F_ fd hmm h K X Q hWl hW hFc hFl hb a g D i Ws F; (first | lia | omega))) (by decide) ?_
    rw [pick_plain, sl_to, ← List.map_take]
    repeat (walk_at "pl e")
    refine Cmp.neL (.fz _) (.fz _) (EqRs.txts false (W.take F.length) F) ?_
    refine ⟨_, rfl, ?_⟩
    refine ite_b (fun c => ?_) (fun c => ?_)
    · have c : W.take F.length ≠ F := by simpa using c
      rw [if_pos c] at nx
      refine TSs.cons ?_
      refine TS.expr ?_
      refine TE.appendM ?_
      repeat (walk_at "pl e")
      refine ⟨aV, _, rfl, List.mem_cons_self, ?_⟩
      refine TArgs.consR rfl ?_
      refine TE.const_str ?_
      refine TArgs.nil ⟨_, _, _, rfl, .head, by (first | lia | omega), ?_⟩
      refine TSs.nil (TSs.nil (fin _ nx _ ⟨by walk_at "pl lo", ?_⟩))
      rw [List.map_append]
      exact List.Sublist.refl _
    have c : ¬ W.take F.length ≠ F := by simpa using c
    rw [if_neg c] at nx
    refine TSs.cons ?_
    refine TS.if_ ?_
    refine TB.cut (P := fun b σ' => b = decide (W = F ∨ (D.2.filter fun p => decide (p.1 ≠ W ∧ p.1.take W.length = W)) ≠ []) ∧ Le ⟨[("folder", wayV F), ("kept", .lst (D.2.map keptV)), ("verdicts", .ref aV), ("way", wayV W)], (aV, .list (D.1.map wordV)) :: K⟩ σ') ?_ ?_
    · repeat (walk_at "pl e")
      refine Cmp.eqL (.fz _) (.fz _) (EqRs.txts false W F) ?_
      refine ⟨_, rfl, ?_⟩
      refine ite_b (fun c1 => ?_) (fun c1 => ?_)
      · have c1 : W = F := by simpa using c1
        exact ⟨(decide_eq_true (.inl c1)).symm, by walk_at "pl lo", List.Sublist.refl _⟩
      have c1 : ¬ W = F := by simpa using c1
      repeat (walk_at "pl e")
      refine TE.listcompF hC (by walk_at "pl comp") ?_
      repeat (walk_at "pl e")
      refine ⟨Nm × Nat, D.2, keptV, fun p => if decide (p.1 ≠ W ∧ p.1.take W.length = W) = true then some (wayV p.1) else none, [("way", wayV W)], (aV, .list (D.1.map wordV)) :: K, _, Walk.lst, fun _ _ => trivial, List.Sublist.refl _, by walk_at "pl lf", by (first | lia | omega), ?_, ?_⟩
      · intro C' hC' p hp
        have hp1 := hkl p hp
        refine TAs.tuple hC'.calm rfl ?_
        refine TIn.cons (TAs.name (hC'.stL (by kernel_rfl)) ?_) rfl
        refine TIn.cons (TAs.name (hC'.stL (by kernel_rfl)) ?_) rfl
        refine TIn.nil ?_
        refine TIfs.one ?_
        repeat (walk_at "pl e")
        refine Cmp.neL (.fz _) (.fz _) (EqRs.txts false p.1 W) ?_
        refine ⟨_, rfl, ?_⟩
        refine ite_b (fun c2 => ?_) (fun c2 => ?_)
        · have c2 : p.1 ≠ W := by simpa using c2
          repeat (walk_at "pl e")
          refine call_len_list (.fz _) (by (first | lia | omega)) ?_
          rw [lW]
          refine ⟨_, rfl, ?_⟩
          repeat (walk_at "pl e")
          refine Slc.list (.fz _) (by rw [List.length_map]; (first | lia | omega)) (by decide) ?_
          rw [pick_plain, sl_to, ← List.map_take]
          repeat (walk_at "pl e")
          refine Cmp.eqL (.fz _) (.fz _) (EqRs.txts false (p.1.take W.length) W) ?_
          refine ⟨_, rfl, ?_⟩
          refine ite_b (fun c3 => ?_) (fun c3 => ?_)
          · have c3 : p.1.take W.length = W := by simpa using c3
            refine TBall.and_nil ?_
            refine ite_t rfl ?_
            rw [if_pos (decide_eq_true ⟨c2, c3⟩)]
            repeat (walk_at "pl e")
            exact ⟨rfl, by walk_at "pl lo", List.Sublist.refl _⟩
          · have c3 : ¬ p.1.take W.length = W := by simpa using c3
            refine ite_f (by decide) ?_
            rw [if_neg (fun q => c3 (of_decide_eq_true q).2)]
            exact ⟨rfl, by walk_at "pl lo", List.Sublist.refl _⟩
        · have c2 : p.1 = W := by simpa using c2
          refine ite_f (by decide) ?_
          rw [if_neg (fun q => (of_decide_eq_true q).1 c2)]
          exact ⟨rfl, by walk_at "pl lo", List.Sublist.refl _⟩
      rw [filterMap_if (fun p : Nm × Nat => wayV p.1) (fun p => decide (p.1 ≠ W ∧ p.1.take W.length = W))]
      refine TE.listF ?_
      refine TArgs.nil ⟨by simp, ?_⟩
      refine Cmp.neL (.fz _) (.fz _) (EqRs.empty _) ?_
      refine ⟨_, rfl, ?_⟩
      generalize (D.2.filter fun p => decide (p.1 ≠ W ∧ p.1.take W.length = W)) = ys
      cases ys with
      | nil =>
        refine ite_f (by simp) ?_
        refine TBall.or_nil ⟨by simp [c1], by walk_at "pl lo", List.Sublist.refl _⟩
      | cons y ys =>
        refine ite_t (by simp) ?_
        exact ⟨by simp, by walk_at "pl lo", List.Sublist.refl _⟩
    rintro _ σ' ⟨rfl, hle⟩
    refine ite_b (fun c1 => ?_) (fun c1 => ?_)
    · rw [if_pos (of_decide_eq_true c1)] at nx
      refine TSs.le hle ?_
      refine TSs.cons ?_
      refine TS.expr ?_
      refine TE.appendM ?_
      repeat (walk_at "pl e")
      refine ⟨aV, _, rfl, List.mem_cons_self, ?_⟩
      refine TArgs.consR rfl ?_
      refine TE.const_str ?_
      refine TArgs.nil ⟨_, _, _, rfl, .head, by (first | lia | omega), ?_⟩
      refine TSs.nil (TSs.nil (TSs.nil (fin _ nx _ ⟨by walk_at "pl lo", ?_⟩)))
      rw [List.map_append]
      exact List.Sublist.refl _
    rw [if_neg (fun q => c1 (decide_eq_true q))] at nx
    refine TSs.le hle ?_
    clear hle σ' c1
    refine TSs.cons ?_
    refine TS.if_ ?_
    refine TB.cut (P := fun b σ' => b = decide ((D.2.filter fun p => decide (p.1 ≠ W ∧ W.take p.1.length = p.1)) ≠ []) ∧ Le ⟨[("folder", wayV F), ("kept", .lst (D.2.map keptV)), ("verdicts", .ref aV), ("way", wayV W)], (aV, .list (D.1.map wordV)) :: K⟩ σ') ?_ ?_
    · refine TB.cmp ?_
      refine TE.listcompF hC (by walk_at "pl comp") ?_
      repeat (walk_at "pl e")
      refine ⟨Nm × Nat, D.2, keptV, fun p => if decide (p.1 ≠ W ∧ W.take p.1.length = p.1) = true then some (wayV p.1) else none, [("way", wayV W)], (aV, .list (D.1.map wordV)) :: K, _, Walk.lst, fun _ _ => trivial, List.Sublist.refl _, by walk_at "pl lf", by (first | lia | omega), ?_, ?_⟩
      · intro C' hC' p hp
        have hp1 := hkl p hp
        have lp : (p.1.map (V.txt false)).length = p.1.length := List.length_map ..
        refine TAs.tuple hC'.calm rfl ?_
        refine TIn.cons (TAs.name (hC'.stL (by kernel_rfl)) ?_) rfl
        refine TIn.cons (TAs.name (hC'.stL (by kernel_rfl)) ?_) rfl
        refine TIn.nil ?_
        refine TIfs.one ?_
        repeat (walk_at "pl e")
        refine Cmp.neL (.fz _) (.fz _) (EqRs.txts false p.1 W) ?_
        refine ⟨_, rfl, ?_⟩
        refine ite_b (fun c2 => ?_) (fun c2 => ?_)
        · have c2 : p.1 ≠ W := by simpa using c2
          repeat (walk_at "pl e")
          refine call_len_list (.fz _) (by (first | lia | omega)) ?_
          rw [lp]
          refine ⟨_, rfl, ?_⟩
          repeat (walk_at "pl e")
          refine Slc.list (.fz _) (by (first | lia | omega)) (by decide) ?_
          rw [pick_plain, sl_to, ← List.map_take]
          repeat (walk_at "pl e")
          refine Cmp.eqL (.fz _) (.fz _) (EqRs.txts false (W.take p.1.length) p.1) ?_
          refine ⟨_, rfl, ?_⟩
          refine ite_b (fun c3 => ?_) (fun c3 => ?_)
          · have c3 : W.take p.1.length = p.1 := by simpa using c3
            refine TBall.and_nil ?_
            refine ite_t rfl ?_
            rw [if_pos (decide_eq_true ⟨c2, c3⟩)]
            repeat (walk_at "pl e")
            exact ⟨rfl, by walk_at "pl lo", List.Sublist.refl _⟩
          · have c3 : ¬ W.take p.1.length = p.1 := by simpa using c3
            refine ite_f (by decide) ?_
            rw [if_neg (fun q => c3 (of_decide_eq_true q).2)]
            exact ⟨rfl, by walk_at "pl lo", List.Sublist.refl _⟩
        · have c2 : p.1 = W := by simpa using c2
          refine ite_f (by decide) ?_
          rw [if_neg (fun q => (of_decide_eq_true q).1 c2)]
          exact ⟨rfl, by walk_at "pl lo", List.Sublist.refl _⟩
      rw [filterMap_if (fun p : Nm × Nat => wayV p.1) (fun p => decide (p.1 ≠ W ∧ W.take p.1.length = p.1))]
      refine TE.listF ?_
      refine TArgs.nil ⟨by simp, ?_⟩
      refine Cmp.neL (.fz _) (.fz _) (EqRs.empty _) ?_
      refine ⟨_, rfl, ?_, by walk_at "pl lo", List.Sublist.refl _⟩
      generalize (D.2.filter fun p => decide (p.1 ≠ W ∧ W.take p.1.length = p.1)) = ys
      cases ys with
      | nil => simp
      | cons y ys => simp
    rintro _ σ' ⟨rfl, hle⟩
    refine ite_b (fun c1 => ?_) (fun c1 => ?_)
    · rw [if_pos (of_decide_eq_true c1)] at nx
      refine TSs.le hle ?_
      refine TSs.cons ?_
      refine TS.expr ?_
      refine TE.appendM ?_
      repeat (walk_at "pl e")
      refine ⟨aV, _, rfl, List.mem_cons_self, ?_⟩
      refine TArgs.consR rfl ?_
      refine TE.const_str ?_
      refine TArgs.nil ⟨_, _, _, rfl, .head, by (first | lia | omega), ?_⟩
      refine TSs.nil (TSs.nil (TSs.nil (TSs.nil (fin _ nx _ ⟨by walk_at "pl lo", ?_⟩))))
      rw [List.map_append]
      exact List.Sublist.refl _
    rw [if_neg (fun q => c1 (decide_eq_true q))] at nx
    refine TSs.le hle ?_
    clear hle σ' c1
    refine TSs.cons ?_
    refine TS.assign (by walk_at "pl st") ?_
    refine TE.binop ?_
    refine TE.listcompF hC (by walk_at "pl comp") ?_
    repeat (walk_at "pl e")
    refine ⟨Nm × Nat, D.2, keptV, fun p => if decide (p.1 ≠ W) = true then some (keptV p) else none, [("way", wayV W)], (aV, .list (D.1.map wordV)) :: K, _, Walk.lst, fun _ _ => trivial, List.Sublist.refl _, by walk_at "pl lf", by (first | lia | omega), ?_, ?_⟩
    · intro C' hC' p hp
      refine TAs.tuple hC'.calm rfl ?_
      refine TIn.cons (TAs.name (hC'.stL (by kernel_rfl)) ?_) rfl
      refine TIn.cons (TAs.name (hC'.stL (by kernel_rfl)) ?_) rfl
      refine TIn.nil ?_
      refine TIfs.one ?_
      repeat (walk_at "pl e")
      refine Cmp.neL (.fz _) (.fz _) (EqRs.txts false p.1 W) ?_
      refine ⟨_, rfl, ?_⟩
      refine ite_b (fun c2 => ?_) (fun c2 => ?_)
      · have c2 : p.1 ≠ W := by simpa using c2
        rw [if_pos (decide_eq_true c2)]
        repeat (walk_at "pl e")
        refine ⟨by simp, ?_⟩
        exact ⟨rfl, by walk_at "pl lo", List.Sublist.refl _⟩
      · have c2 : p.1 = W := by simpa using c2
        rw [if_neg (fun q => (of_decide_eq_true q) c2)]
        exact ⟨rfl, by walk_at "pl lo", List.Sublist.refl _⟩
    rw [filterMap_if keptV (fun p => decide (p.1 ≠ W))]
    have hfl := List.length_filter_le (fun p : Nm × Nat => decide (p.1 ≠ W)) D.2
    repeat (walk_at "pl e")
    refine call_len_list (.mt List.mem_cons_self) (by (first | lia | omega)) ?_
    rw [lV]
    refine TArgs.nil ⟨by simp, ?_⟩
    refine TArgs.nil ⟨by simp, ?_⟩
    refine Bin.add_list (.fz _) (.fz _) (by rw [List.length_map, List.length_singleton]; (first | lia | omega)) ?_
    refine TSs.cons ?_
    refine TS.expr ?_
    refine TE.appendM ?_
    repeat (walk_at "pl e")
    refine ⟨aV, _, rfl, List.mem_cons_self, ?_⟩
    refine TArgs.consR rfl ?_
    refine TE.const_str ?_
    refine TArgs.nil ⟨_, _, _, rfl, .head, by (first | lia | omega), ?_⟩
    refine TSs.nil (TSs.nil (TSs.nil (TSs.nil (fin _ nx _ ⟨?_, ?_⟩))))
    · unfold keepF
      rw [List.map_append]
      walk_at "pl lo"
    · show List.Sublist ((aV, AO.list ((D.1 ++ [3]).map wordV)) :: K) _
      rw [List.map_append]
      exact List.Sublist.refl _
  rintro _ σ' ⟨rfl, hle⟩
  refine TSs.le hle ?_
  clear hle σ'
  obtain ⟨d1, d2, d3⟩ := D0_len F Ws ([], [])
  change (D0 F Ws).2.length ≤ _ at d2
  have hkl : ∀ p ∈ (D0 F Ws).2, p.1.length ≤ 500 ∧ charsN p.1 := fun p hp => by
    rcases d3 p hp with e | e
    · cases e
    · exact hW _ e
  unfold dirsD at h
  generalize D0 F Ws = D at h d2 hkl
  have hk : D.2.length ≤ 64 := by refine Nat.le_trans d2 ?_; simp; (clear hkl d2 h D d3 d1 aV lF hro hC C F_ fd hmm K X Q hW hFc hFl F hb a g; (first | lia | omega))
  clear d1 d2 d3
  refine TSs.cons ?_
  refine TS.assign (by walk_at "pl st") ?_
  refine TE.listM ?_
  repeat (walk_at "pl e")
  refine ⟨by simp, fun aD => ?_⟩
  refine TSs.cons ?_
  refine TS.for_ hC.calm ?_
  repeat (walk_at "pl e")
  refine ⟨_, _, Walk.lst, fun i σ => i ≤ D.2.length ∧ ∃ ds : List Nm, ds = (D.2.take i).foldl (fun ds p => (inN F p.1).foldl addN ds) [F] ∧ (∀ d ∈ ds, charsN d) ∧ ds.length ≤ 1 + 500 * i ∧ Le ⟨[("folder", wayV F), ("kept", .lst (D.2.map keptV)), ("verdicts", .ref aV), ("folders", .ref aD)], (aD, .list (ds.map wayV)) :: (aV, .list (D.1.map wordV)) :: K⟩ σ,
    ⟨Nat.zero_le _, [F], rfl, fun d hd => by rw [List.mem_singleton.mp hd]; exact hFc, Nat.le_refl _, by walk_at "pl lo", List.Sublist.refl _⟩, fun _ _ _ => trivial, ?_, ?_⟩
  rotate_left
  · rintro σ ⟨_, ds, hds, _, _, hle⟩
    rw [List.length_map, List.take_length] at hds
    rw [← hds] at h
    refine TSs.nil ?_
    refine TSs.le hle ?_
    refine TSs.cons ?_
    refine TS.ret ?_
    refine TE.tuple ?_
    refine TArgs.consR rfl ?_
    refine TE.freeze ?_
    repeat (walk_at "pl e")
    refine ⟨aV, _, _, rfl, .tail .head, ?_⟩
    refine TArgs.consR rfl ?_
    walk_at "pl e"
    refine TArgs.consR rfl ?_
    refine TE.freeze ?_
    repeat (walk_at "pl e")
    refine ⟨aD, _, _, rfl, .head, ?_⟩
    exact TArgs.nil ⟨by simp, h⟩
  rintro i u σ hu ⟨hi, ds, hds, hdc, hdl, hle⟩
  rw [List.getElem?_map] at hu
  obtain ⟨p, hpi, hu⟩ : ∃ p, D.2[i]? = some p ∧ u = keptV p := by
    cases e : D.2[i]? with
    | none => rw [e] at hu; cases hu
    | some c => rw [e] at hu; cases hu; exact ⟨c, rfl, rfl⟩
  subst hu
  have hil := (List.getElem?_eq_some_iff.mp hpi).1
  obtain ⟨hpl, hpc⟩ := hkl p (List.mem_of_getElem? hpi)
  have nx : (D.2.take (i + 1)).foldl (fun ds p => (inN F p.1).foldl addN ds) [F] = (inN F p.1).foldl addN ds := by
    rw [List.take_add_one, hpi, List.foldl_append, ← hds]; rfl
  clear hds hu hpi
  have lp : (p.1.map (V.txt false)).length = p.1.length := List.length_map ..
  refine TAs.tuple hC.calm rfl ?_
  refine TIn.cons (TAs.name (by walk_at "pl st") ?_) rfl
  refine TIn.cons (TAs.name (by walk_at "pl st") ?_) rfl
  refine TIn.nil ?_
  refine TSs.le hle.both.both ?_
  clear hle σ
  refine TSs.cons ?_
  refine TS.for_ hC.calm ?_
  repeat (walk_at "pl e")
  refine call_len_list (.fz _) (by (clear lp nx hpc hpl hil hdl hdc hi aD hk hkl h aV hro hC C F_ fd hmm K X Q hWl hW hFc hb a g p ds i D Ws; (first | lia | omega))) ?_
  rw [lF]
  repeat (walk_at "pl e")
  refine call_len_list (.fz _) (by (clear nx hpc hil hdl hdc hi aD hk hkl h aV lF hro hC C F_ fd hmm K X Q hWl hW hFc hFl hb a g ds i D Ws F; (first | lia | omega))) ?_
  rw [lp]
  refine TArgs.nil ?_
  refine call_range2 ?_
  refine ⟨_, _, Walk.rngAB (a := F.length + 1) (b := p.1.length) (by (clear lp nx hpc hpl hil hdl hdc hi aD hk hkl h aV hro hC C F_ fd hmm K X Q hWl hW hFc hb a g p ds i D Ws lF; (first | lia | omega))) (by (clear nx hpc hil hdl hdc hi aD hk hkl h aV lF hro hC C F_ fd hmm K X Q hWl hW hFc hFl hb a g ds i D Ws F lp; (first | lia | omega))), fun j σ => ∃ es : List Nm, es = ((inN F p.1).take j).foldl addN ds ∧ (∀ d ∈ es, charsN d) ∧ es.length ≤ ds.length + j ∧ Le ⟨[("folder", wayV F), ("kept", .lst (D.2.map keptV)), ("verdicts", .ref aV), ("folders", .ref aD), ("way", wayV p.1)], (aD, .list (es.map wayV)) :: (aV, .list (D.1.map wordV)) :: K⟩ σ,
    ⟨ds, rfl, hdc, Nat.le_refl _, by walk_at "pl lo", List.Sublist.refl _⟩, fun _ _ _ => trivial, ?_, ?_⟩
  · rintro j u σ hu ⟨es, hes, hec, hel, hle⟩
    obtain ⟨hj, hu⟩ := range_item hu
    subst hu
    have hx : (inN F p.1)[j]? = some (p.1.take (F.length + 1 + j)) := by rw [List.getElem?_map, List.getElem?_range hj]; rfl
    have nx2 : ((inN F p.1).take (j + 1)).foldl addN ds = addN es (p.1.take (F.length + 1 + j)) := by
      rw [List.take_add_one, hx, List.foldl_append, ← hes]; rfl
    obtain ⟨d, hd⟩ : ∃ d, d = p.1.take (F.length + 1 + j) := ⟨_, rfl⟩
    have hdc2 : charsN d := fun q hq => hpc q (List.mem_of_mem_take (hd ▸ hq))
    have hdl2 : d.length ≤ 500 := by rw [hd, List.length_take]; (clear hdc2 hd d nx2 hx hu hj hle hel hec hes σ nx hpc hil hdl hdc hi aD hk hkl h aV hro hC C F_ fd hmm K X Q hWl hW hFc hFl hb a g es ds i D Ws lp lF; (first | lia | omega))
    unfold addN at nx2
    rw [← hd] at nx2
    have lE : (es.map wayV).length = es.length := List.length_map ..
    refine TAs.name (by walk_at "pl st") ?_
    refine TSs.le hle.both ?_
    clear hle σ hx hes
    refine TSs.cons ?_
    repeat (walk_at "pl e")
    refine Slc.list (.fz _) (by (clear lE hdl2 hdc2 hd nx2 hu hj hel hec nx hpc hil hdl hdc hi aD hk hkl h aV lF hro hC C F_ fd hmm K X Q hWl hW hFc hFl hb a g d es j ds i D Ws F; (first | lia | omega))) (by decide) ?_
    rw [pick_plain, sl_to, ← List.map_take, ← hd]
    repeat (walk_at "pl e")
    refine Cmp.notIn_list (vs := es.map wayV) (.mt List.mem_cons_self) (plain_way hdc2) (plainVs_all fun v hv => ?_) (deepVs_le fun v hv => ?_) ?_
    · obtain ⟨x, hx, rfl⟩ := List.mem_map.mp hv
      exact plain_way (hec x hx)
    · obtain ⟨x, hx, rfl⟩ := List.mem_map.mp hv
      have := deep_texts x
      show deepVs (x.map (.txt false)) + 1 ≤ 63
      (clear hv hx lE hdl2 hdc2 hd nx2 hu hj hel hec lp nx hpc hpl hil hdl hdc hi aD hk hkl h aV lF hro hC C F_ fd hmm K X Q hWl hW hFc hFl hb a g d es j p ds i D Ws F; (first | lia | omega))
    rw [any_way es]
    refine ⟨_, rfl, ?_⟩
    refine ite_b (fun c => ?_) (fun c => ?_)
    · have c : d ∉ es := by simpa using c
      rw [if_neg c] at nx2
      refine TSs.cons ?_
      refine TS.expr ?_
      refine TE.appendM ?_
      repeat (walk_at "pl e")
      refine ⟨aD, _, rfl, List.mem_cons_self, ?_⟩
      repeat (walk_at "pl e")
      refine Slc.list (.fz _) (by (first | lia | omega)) (by decide) ?_
      rw [pick_plain, sl_to, ← List.map_take, ← hd]
      refine TArgs.nil ⟨_, _, _, rfl, .head, by (first | lia | omega), ?_⟩
      refine TSs.nil (TSs.nil ⟨es ++ [d], nx2.symm, fun x hx => ?_, by rw [List.length_append, List.length_singleton]; (first | lia | omega), by walk_at "pl lo", ?_⟩)
      · rcases List.mem_append.mp hx with e | e
        · exact hec x e
        · rw [List.mem_singleton.mp e]; exact hdc2
      · rw [List.map_append]; exact List.Sublist.refl _
    · have c : d ∈ es := by simpa using c
      rw [if_pos c] at nx2
      exact TSs.nil (TSs.nil ⟨es, nx2.symm, hec, by (first | lia | omega), by walk_at "pl lo", List.Sublist.refl _⟩)
  · rintro σ ⟨es, hes, hec, hel, hle⟩
    rw [List.length_map, List.length_range] at hel
    have ht : (inN F p.1).take ((List.range (p.1.length - (F.length + 1))).map fun k : Nat => V.int ((F.length + 1 + k : Nat) : Int)).length = inN F p.1 := by
      rw [List.length_map]
      exact List.take_of_length_le (by rw [List.length_map]; exact Nat.le_refl _)
    rw [ht] at hes
    refine TSs.nil (TSs.nil ⟨hil, es, by rw [nx, hes], hec, by (clear ht hle hec hes σ nx hpc hil hdc hi aD hk hkl h aV hro hC C F_ fd hmm K X Q hWl hW hFc hb a g D Ws lp lF hFl; (first | lia | omega)), ?_⟩)
    exact Le.trans (b := ⟨[("folder", wayV F), ("kept", .lst (D.2.map keptV)), ("verdicts", .ref aV), ("folders", .ref aD), ("way", wayV p.1)], (aD, .list (es.map wayV)) :: (aV, .list (D.1.map wordV)) :: K⟩) ⟨by walk_at "pl lo", List.Sublist.refl _⟩ hle
end PL

end
section
open PySem PySem.Calls PyProof.Rows
set_option Elab.async false
set_option linter.unusedVariables false
set_option linter.unusedSimpArgs false
set_option maxRecDepth 100000
set_option maxHeartbeats 4000000

namespace PL

noncomputable def txtM (m : Nat × Nm) : List Nat := List.replicate m.1 47 ++ joinS [47] m.2
noncomputable def wayM (F : Nm) (m : Nat × Nm) : Nm := wayF (if headIs 47 (txtM m) then [] else F) m.2
theorem way_mem : ∀ (ps : List (List Nat)) (s : Nm) {c : List Nat}, c ∈ wayF s ps → c ∈ s ∨ c ∈ ps
  | [], s, c, h => .inl h
  | p :: ps, s, c, h => by
    rcases way_mem ps (wstep s p) h with e | e
    · unfold wstep at e
      split at e
      · exact .inl (List.dropLast_subset _ e)
      · split at e
        · exact .inl e
        · rcases List.mem_append.mp e with e | e
          · exact .inl e
          · rw [List.mem_singleton.mp e]; exact .inr List.mem_cons_self
    · exact .inr (List.mem_cons_of_mem _ e)
theorem sumL_small {l : List (List Nat)} (h : ∀ p ∈ l, p.length ≤ 2) : sumL l ≤ 2 * l.length := by
  induction l with
  | nil => exact Nat.le_refl _
  | cons p l ih =>
    have h1 := h p (by simp)
    have h2 := ih fun q hq => h q (List.mem_cons_of_mem _ hq)
    show p.length + sumL l ≤ _
    rw [List.length_cons]; (clear h ih; (first | lia | omega))
/-- the folder is a plain one -/
structure FolOK (F : Nm) : Prop where
  names : names? F
  len : F.length ≤ 2
  ok : ∀ p ∈ F, PieceOK p
theorem fol_ok (k : Nat) : FolOK (([[97], [98]] : Nm).take k) := by
  have h : ∀ p ∈ ([[97], [98]] : Nm).take k, p = [97] ∨ p = [98] := fun p hp => by
    have := List.mem_of_mem_take hp
    simpa using this
  refine ⟨fun p hp => ?_, by rw [List.length_take]; simp; (clear h; (first | lia | omega)), fun p hp => ?_⟩
  · rcases h p hp with rfl | rfl
    · exact ⟨by decide, by decide, by decide, by decide⟩
    · exact ⟨by decide, by decide, by decide, by decide⟩
  · rcases h p hp with rfl | rfl <;> decide
structure MemB (F : Nm) (m : Nat × Nm) : Prop where
  mem : MemOK F (txtM m, wayM F m)
  wl : (wayM F m).length ≤ 500
  wc : charsN (wayM F m)
  tc : ∀ c ∈ txtM m, c < 256
  cost : costW F (wayM F m) ≤ m.2.length
theorem mem_b {F : Nm} (hF : FolOK F) {m : Nat × Nm} (h1 : m.1 ≤ 2) (h2 : ∀ p ∈ m.2, PieceOK p) (h3 : m.2.length ≤ 64) : MemB F m := by
  obtain ⟨a, b⟩ := place_eq hF.names m.1 (fun p hp => (h2 p hp).1) (t := txtM m) rfl
  have hs : ∀ p ∈ (if headIs 47 (txtM m) then [] else F), PieceOK p := by
    split
    · intro p hp; cases hp
    · exact hF.ok
  have hsl : (if headIs 47 (txtM m) then ([] : Nm) else F).length ≤ 2 := by
    split
    · exact Nat.zero_le _
    · exact hF.len
  have hw : ∀ p ∈ wayM F m, PieceOK p := fun p hp => (way_mem _ _ hp).elim (hs p) (h2 p)
  have hl := way_len (if headIs 47 (txtM m) then ([] : Nm) else F) m.2
  change (wayM F m).length ≤ _ at hl
  have hsum := sumL_small fun p hp => (hw p hp).2.1
  have hps := sumL_small fun p hp => (h2 p hp).2.1
  have htl : (txtM m).length ≤ 2 + 3 * m.2.length := by
    unfold txtM
    rw [List.length_append, List.length_replicate, joinS_length]
    change _ + (sumL m.2 + 1 * (m.2.length - 1)) ≤ _
    (clear hsum hl hw hsl hs b a h2 hF F h3; (first | lia | omega))
  refine ⟨⟨a, b, by show (txtM m).length ≤ 300; (clear hps hsum hl hw hsl hs b a h2 h1 hF F; (first | lia | omega)), by show sumL (wayM F m) + (wayM F m).length ≤ 500; (clear htl hps hw hs b a h2 h1 hF; (first | lia | omega))⟩, by (clear htl hps hsum hw hs b a h2 h1 hF; (first | lia | omega)), fun p hp c hc => (hw p hp).2.2 c hc, fun c hc => ?_, ?_⟩
  · rcases List.mem_append.mp hc with e | e
    · rw [List.eq_of_mem_replicate e]; decide
    · rcases joinS_mem e with e | ⟨p, hp, hc⟩
      · rw [List.mem_singleton.mp e]; decide
      · exact (h2 p hp).2.2 c hc
  · unfold costW
    split
    · rename_i c
      have := (take_iff.mp c).length_le
      by_cases q : headIs 47 (txtM m) = true
      · rw [if_pos q] at hl
        have hl : (wayM F m).length ≤ 0 + m.2.length := hl
        (clear q c htl hps hsum hw hsl hs b a h3 h2 h1 hF this; (first | lia | omega))
      · rw [if_neg q] at hl; (clear q c htl hps hsum hw hsl hs b a h3 h2 h1 hF this; (first | lia | omega))
    · exact Nat.zero_le _
theorem sum_le {α : Type} (f g : α → Nat) : ∀ (l : List α), (∀ x ∈ l, f x ≤ g x) → (l.map f).sum ≤ (l.map g).sum
  | [], _ => Nat.le_refl _
  | x :: l, h => by
    have := sum_le f g l fun y hy => h y (List.mem_cons_of_mem _ hy)
    have := h x (by simp)
    rw [List.map_cons, List.map_cons, List.sum_cons, List.sum_cons]; (clear h; (first | lia | omega))
theorem mem_sum {l : List Nat} {x : Nat} (h : x ∈ l) : x ≤ l.sum := by
  induction l with
  | nil => cases h
  | cons y l ih =>
    rw [List.sum_cons]
    rcases List.mem_cons.mp h with e | e
    · (clear h ih; (first | lia | omega))
    · have := ih e; (clear e h ih; (first | lia | omega))
theorem Mems.facts {ms : List (Nat × Nm)} {n : Nat} (h : Mems ms n) (hn : n ≤ 63) : ms.length ≤ 64 ∧ (∀ m ∈ ms, m.2.length ≤ 64) ∧ (ms.map fun m => m.2.length).sum ≤ 63 := by
  have hc := h.cnt
  refine ⟨by (clear h; (first | lia | omega)), fun m hm => ?_, ?_⟩
  · have := mem_sum (List.mem_map_of_mem (f := fun m : Nat × Nm => m.2.length) hm)
    (clear hm h; (first | lia | omega))
  · cases ms with
    | nil => decide
    | cons m ms => rw [List.length_cons] at hc; (clear h; (first | lia | omega))
theorem nodup_inj {α β : Type} (f : α → β) {l : List α} (h : (l.map f).Nodup) : ∀ a ∈ l, ∀ b ∈ l, f a = f b → a = b := by
  intro a ha b hb e
  obtain ⟨i, hi⟩ := List.mem_iff_getElem?.mp ha
  obtain ⟨j, hj⟩ := List.mem_iff_getElem?.mp hb
  have h1 := (List.getElem?_eq_some_iff.mp hi)
  have h2 := (List.getElem?_eq_some_iff.mp hj)
  obtain ⟨i1, e1⟩ := h1
  obtain ⟨j1, e2⟩ := h2
  have : i = j := (List.getElem_inj (h₀ := by simpa using i1) (h₁ := by simpa using j1) h).mp (by rw [List.getElem_map, List.getElem_map, e1, e2, e])
  subst this
  exact e1.symm.trans e2
theorem law9_ok {g : Gd} {a a9 a13 a14 a15 a16 a17 a18 a20 a21 a22 a23 a24 a25 : Addr} (hf : Fn g P9 26 a) (fs : Fs9 g a9 a13 a14 a15 a16 a17 a18 a22 a23) (f20 : Fn g P9 20 a20) (f21 : Fn g P9 21 a21) (f24 : Fn g P9 24 a24) (f25 : Fn g P9 25 a25) {xs : List Int} (hx : xs.length ≤ 63) {X : XL} :
    CallT g (99 + 1) (.ref a) [.lst (xs.map .int)] (fun v _ => v = .bool true) X [] := by
  have hb := fs.b
  obtain ⟨hmm, fd, F_⟩ := hf
  refine CallT.def_ F_ (by rw [pars26]; rfl) fun C hC hro => ?_
  rw [pars26]
  refine TSs.le start1 ?_
  refine TSs.cons ?_
  refine TS.assignC hC hro (by kernel_rfl) ?_
  repeat (walk_at "pl e")
  refine ⟨by simp, ?_⟩
  repeat (walk_at "pl e")
  refine call_sum hC.calm (.fz _) ?_
  repeat (walk_at "pl e")
  refine Bin.mod_int (by decide) ?_
  obtain ⟨k3, hk3, e3⟩ := fmodN xs.sum 3 (by decide)
  replace e3 : xs.sum.fmod 3 = k3 := e3
  rw [e3]
  refine ⟨_, rfl, ?_⟩
  repeat (walk_at "pl e")
  refine Slc.list (.fz _) (by simp) (by decide) ?_
  rw [pick_plain, sl_to, show ([V.txt false [97], V.txt false [98]] : List V) = ([[97], [98]] : Nm).map (.txt false) from rfl, ← List.map_take]
  have hF := fol_ok k3
  generalize ([[97], [98]] : Nm).take k3 = F at hF ⊢
  refine TSs.cons ?_
  refine TS.assignC hC hro (by kernel_rfl) ?_
  repeat (walk_at "pl e")
  refine call_sum hC.calm (.fz _) ?_
  repeat (walk_at "pl e")
  refine Bin.fdiv_int (by decide) (PyProof.noPylong_of_log2 (by decide +kernel)) ?_
  repeat (walk_at "pl e")
  refine Bin.mod_int (by decide) ?_
  refine TE.const_int ?_
  refine Cmp.eq_int ?_
  generalize ((xs.sum.fdiv 3).fmod 2 == 1) = o
  refine TSs.le (σ' := ⟨[("script", .lst (xs.map .int)), ("folder", wayV F), ("octets", .bool o)], []⟩) ⟨by walk_at "pl lo", List.Sublist.refl _⟩ ?_
  have hFl : sumL F + F.length ≤ 6 := by have := sumL_small fun p hp => (hF.ok p hp).2.1; have := hF.len; (clear o hF e3 hk3 hro hC C F_ fd hmm hb X hx f25 f24 f21 f20 fs a25 a24 a23 a22 a21 a20 a18 a17 a16 a15 a14 a13 a9 a g k3 xs; (first | lia | omega))
  have hFc : charsN F := fun p hp => (hF.ok p hp).2.2
  have encc : ∀ W : Nm, charsN W → ∀ c ∈ enc W, c < 256 := fun W hW c hc => outH_chars (r := 1) hW c hc
  -- members
  refine TSs.cons ?_
  refine TS.assignComp hC (by walk_at "pl comp") (by kernel_rfl) (by kernel_rfl) (by kernel_rfl) ?_
  refine TE.callG hC f20 (by kernel_rfl) (by kernel_rfl) ?_
  repeat (walk_at "pl e")
  refine CallV.fnI hC (members_ok f20 hb hx fun ms hms => ?_) (by decide)
  obtain ⟨hml, hmp, hmc⟩ := hms.facts hx
  have hmb : ∀ m ∈ ms, MemB F m := fun m hm => mem_b hF (hms.ok m hm).1 (hms.ok m hm).2 (hmp m hm)
  refine ⟨Nat × Nm, ms, memV, fun m => some (.tup [.txt false (txtM m), .lst (m.2.map (.txt false))]), [], [], _, Walk.lst, fun _ _ => trivial, List.Sublist.refl _, by walk_at "pl lf", by (clear hmb hmc hmp hms encc hFc hFl o hF e3 hk3 hro hC C F_ fd hmm hb X hx f25 f24 f21 f20 fs a25 a24 a23 a22 a21 a20 a18 a17 a16 a15 a14 a13 a9 a g F k3 xs; (first | lia | omega)), ?_, ?_⟩
  · intro C' hC' m hm
    have hb1 := (hmb m hm).mem.tl
    dsimp only at hb1
    have htm : (joinS [47] m.2).length ≤ 300 ∧ m.1 ≤ 2 := by
      unfold txtM at hb1
      rw [List.length_append, List.length_replicate] at hb1
      exact ⟨by (clear hm hC' C' hmb hmc hmp hml hms encc hFc hFl o hF e3 hk3 hro hC C F_ fd hmm hb X hx f25 f24 f21 f20 fs a25 a24 a23 a22 a21 a20 a18 a17 a16 a15 a14 a13 a9 a g ms F k3 xs; (first | lia | omega)), (hms.ok m hm).1⟩
    have hm2 := hmp m hm
    have hsm := sumL_small fun p hp => ((hms.ok m hm).2 p hp).2.1
    refine TAs.list hC'.calm rfl ?_
    refine TIn.cons (TAs.name (hC'.stL (by kernel_rfl)) ?_) rfl
    refine TIn.cons (TAs.name (hC'.stL (by kernel_rfl)) ?_) rfl
    refine TIn.nil ?_
    refine TIfs.nil ?_
    refine ite_t rfl ?_
    refine TE.tuple ?_
    refine TArgs.consR rfl ?_
    repeat (walk_at "pl e")
    refine TE.joinS ?_
    repeat (walk_at "pl e")
    refine ⟨_, m.2, rfl, .fz _, ?_, ?_⟩
    · show sumL m.2 + m.2.length * 1 ≤ _
      (clear htm hb1 hm hC' C' hmb hmc hmp hml hms encc hFc hFl o hF e3 hk3 hro hC C F_ fd hmm hb X hx f25 f24 f21 f20 fs a25 a24 a23 a22 a21 a20 a18 a17 a16 a15 a14 a13 a9 a g ms F k3 xs; (first | lia | omega))
    refine Bin.add_txt (by rw [List.length_replicate]; (clear hsm hm2 hb1 hm hC' C' hmb hmc hmp hml hms encc hFc hFl o hF e3 hk3 hro hC C F_ fd hmm hb X hx f25 f24 f21 f20 fs a25 a24 a23 a22 a21 a20 a18 a17 a16 a15 a14 a13 a9 a g ms F k3 xs; (first | lia | omega))) ?_
    repeat (walk_at "pl e")
    refine ⟨by simp, ?_⟩
    exact ⟨rfl, by walk_at "pl lo", List.Sublist.refl _⟩
  rw [filterMap_some]
  refine .inl ?_
  obtain ⟨mv, hmv⟩ : ∃ mv : Nat × Nm → V, mv = fun m => .tup [.txt false (txtM m), .lst (m.2.map (.txt false))] := ⟨_, rfl⟩
  rw [← hmv]
  refine TSs.le (σ' := ⟨[("folder", wayV F), ("octets", .bool o), ("members", .lst (ms.map mv))], []⟩) ⟨by walk_at "pl lo", List.Sublist.refl _⟩ ?_
  obtain ⟨ns, hns⟩ : ∃ ns : List (List Nat × Nm), ns = ms.map fun m => (txtM m, wayM F m) := ⟨_, rfl⟩
  obtain ⟨Ws, hWs⟩ : ∃ Ws : List Nm, Ws = ms.map (wayM F) := ⟨_, rfl⟩
  have hnW : ns.map (·.2) = Ws := by rw [hns, hWs, List.map_map]; rfl
  have hcost : ((ns.map (·.2)).map (costW F)).sum ≤ 63 := by
    rw [hnW, hWs, List.map_map]
    exact Nat.le_trans (sum_le _ _ ms fun m hm => (hmb m hm).cost) hmc
  -- told
  refine TSs.cons ?_
  refine TS.assign (by walk_at "pl st") ?_
  refine TE.callG hC fs.f23 (by kernel_rfl) (by kernel_rfl) ?_
  refine TArgs.consR rfl ?_
  refine TE.callG hC f21 (by kernel_rfl) (by kernel_rfl) ?_
  refine TArgs.consR rfl ?_
  repeat (walk_at "pl e")
  refine TE.joinS ?_
  repeat (walk_at "pl e")
  refine ⟨_, F, rfl, .fz _, ?_, ?_⟩
  · show sumL F + F.length * 1 ≤ _
    (clear hcost hnW hWs Ws hns hmv mv hmb hmc hmp hml hms encc hFc o hF e3 hk3 hro hC C F_ fd hmm hb X hx f25 f24 f21 f20 fs a25 a24 a23 a22 a21 a20 a18 a17 a16 a15 a14 a13 a9 a g ns ms k3 xs; (first | lia | omega))
  have hje := enc_len F
  refine Bin.add_txt (by change ([47] ++ joinS [47] F).length ≤ _ at hje; rw [List.length_append] at hje; (clear hcost hnW hWs Ws hns hmv mv hmb hmc hmp hml hms encc hFc o hF e3 hk3 hro hC C F_ fd hmm hb X hx f25 f24 f21 f20 fs a25 a24 a23 a22 a21 a20 a18 a17 a16 a15 a14 a13 a9 a g ns ms k3 xs; (first | lia | omega))) ?_
  rw [show [47] ++ joinS [47] F = enc F from rfl]
  repeat (walk_at "pl e")
  refine CallV.fnI hC (kind_ok f21 hb (by (clear hcost hnW hWs Ws hns hmv mv hmb hmc hmp hml hms encc hFc o hF e3 hk3 hro hC C F_ fd hmm hb X hx f25 f24 f21 f20 fs a25 a24 a23 a22 a21 a20 a18 a17 a16 a15 a14 a13 a9 a g ns ms k3 xs; (first | lia | omega))) (encc F hFc) ?_) (by decide)
  refine TArgs.consR rfl ?_
  refine TE.listcompF hC (by walk_at "pl comp") ?_
  repeat (walk_at "pl e")
  refine ⟨Nat × Nm, ms, mv, fun m => some (.txt o (txtM m)), [("octets", .bool o)], [], _, Walk.lst, fun _ _ => trivial, List.Sublist.refl _, by walk_at "pl lf", by (clear hje hcost hnW hWs Ws hns hmv mv hmb hmc hmp hms encc hFc hFl o hF e3 hk3 hro hC C F_ fd hmm hb X hx f25 f24 f21 f20 fs a25 a24 a23 a22 a21 a20 a18 a17 a16 a15 a14 a13 a9 a g ns F k3 xs; (first | lia | omega)), ?_, ?_⟩
  · intro C' hC' m hm
    have hb1 := (hmb m hm).mem.tl
    dsimp only at hb1
    rw [hmv]
    refine TAs.tuple hC'.calm rfl ?_
    refine TIn.cons (TAs.name (hC'.stL (by kernel_rfl)) ?_) rfl
    refine TIn.cons (TAs.name (hC'.stL (by kernel_rfl)) ?_) rfl
    refine TIn.nil ?_
    refine TIfs.nil ?_
    refine ite_t rfl ?_
    refine TE.callG hC' f21 (by kernel_rfl) (by kernel_rfl) ?_
    repeat (walk_at "pl e")
    refine CallV.fnI hC' (kind_ok f21 hb (by (clear hm hC' C' hje hcost hnW hWs Ws hns hmv mv hmb hmc hmp hml hms encc hFc hFl o hF e3 hk3 hro hC C F_ fd hmm hb X hx f25 f24 f21 f20 fs a25 a24 a23 a22 a21 a20 a18 a17 a16 a15 a14 a13 a9 a g ns ms F k3 xs; (first | lia | omega))) (hmb m hm).tc ?_) (by decide)
    exact ⟨rfl, by walk_at "pl lo", List.Sublist.refl _⟩
  rw [filterMap_some, show (ms.map fun m => V.txt o (txtM m)) = ns.map fun m => .txt o m.1 from by rw [hns, List.map_map]; rfl]
  refine TArgs.nil ?_
  refine CallV.fnI hC (unpacked_ok fs hF.names (by (clear hje hcost hnW hWs Ws hns hmv mv hmb hmc hmp hml hms encc hFc o hF e3 hk3 hro hC C F_ fd hmm hb X hx f25 f24 f21 f20 fs a25 a24 a23 a22 a21 a20 a18 a17 a16 a15 a14 a13 a9 a g ns ms k3 xs; (first | lia | omega))) (ms := ns) (fun m hm => ?_) (by rw [hns, List.length_map]; exact hml) hcost fun qs es q1 q2 q3 q4 H1 hH1 => ?_) (by decide)
  · rw [hns] at hm
    obtain ⟨m', hm', rfl⟩ := List.mem_map.mp hm
    exact (hmb m' hm').mem
  rw [hnW] at q1 q3 ⊢
  obtain ⟨r1, r2, r3⟩ := run_same F Ws ([], [], [F]) ([], []) rfl (Jn.start F)
  change (T0 F Ws).1 = (D0 F Ws).1 at r1
  have J := T0_jn F Ws
  have hTok := T0_ok hF.names (Ws := Ws) (fun W hW => by rw [hWs] at hW; obtain ⟨m, hm, rfl⟩ := List.mem_map.mp hW; exact (hmb m hm).mem.names)
  have hcnt := T0_cnt F Ws (by rw [hnW] at hcost; exact hcost)
  obtain ⟨sm1, sm2⟩ := J.small hcnt
  obtain ⟨_, _, hD3⟩ := D0_len F Ws ([], [])
  change ∀ p ∈ (D0 F Ws).2, _ at hD3
  rw [r1]
  obtain ⟨tv, htv⟩ : ∃ tv : V, tv = .tup [.lst ((D0 F Ws).1.map wordV), .lst (qs.map (pairT o)), .lst (es.map (.txt o))] := ⟨_, rfl⟩
  rw [← htv]
  refine TSs.le (σ' := ⟨[("folder", wayV F), ("octets", .bool o), ("members", .lst (ms.map mv)), ("told", tv)], []⟩) ⟨by walk_at "pl lo", List.nil_sublist _⟩ ?_
  clear hH1 H1 r2 r3
  -- ways
  refine TSs.cons ?_
  refine TS.assignComp hC (by walk_at "pl comp") (by kernel_rfl) (by kernel_rfl) (by kernel_rfl) ?_
  repeat (walk_at "pl e")
  refine ⟨Nat × Nm, ms, mv, fun m => some (wayV (wayM F m)), [("folder", wayV F)], [], _, Walk.lst, fun _ _ => trivial, List.Sublist.refl _, by walk_at "pl lf", by (clear htv tv hD3 sm2 sm1 hcnt hTok J r1 q4 q3 q2 q1 es qs hje hcost hnW hWs hns hmv mv hmb hmc hmp hms encc hFc hFl o hF e3 hk3 hro hC C F_ fd hmm hb X hx f25 f24 f21 f20 fs a25 a24 a23 a22 a21 a20 a18 a17 a16 a15 a14 a13 a9 a g ns k3 xs; (first | lia | omega)), ?_, ?_⟩
  · intro C' hC' m hm
    have hb1 := (hmb m hm).mem.tl
    dsimp only at hb1
    have hm2 := hmp m hm
    rw [hmv]
    refine TAs.tuple hC'.calm rfl ?_
    refine TIn.cons (TAs.name (hC'.stL (by kernel_rfl)) ?_) rfl
    refine TIn.cons (TAs.name (hC'.stL (by kernel_rfl)) ?_) rfl
    refine TIn.nil ?_
    refine TIfs.nil ?_
    refine ite_t rfl ?_
    refine TE.callG hC' f24 (by kernel_rfl) (by kernel_rfl) ?_
    refine TArgs.consR rfl ?_
    refine TE.cut (P := fun v σ' => v = wayV (if headIs 47 (txtM m) then [] else F) ∧ Le ⟨[("folder", wayV F), ("pieces", wayV m.2)], []⟩ σ') ?_ ?_
    · repeat (walk_at "pl e")
      refine Slc.txt (by (clear hm2 hm hC' C' htv tv hD3 sm2 sm1 hcnt hTok J r1 q4 q3 q2 q1 es qs hje hcost hnW hWs hns hmv mv hmb hmc hmp hml hms encc hFc hFl o hF e3 hk3 hro hC C F_ fd hmm hb X hx f25 f24 f21 f20 fs a25 a24 a23 a22 a21 a20 a18 a17 a16 a15 a14 a13 a9 a g ns ms k3 xs; (first | lia | omega))) ?_
      rw [sl_toL _ 1 1 rfl]
      repeat (walk_at "pl e")
      have eh : ((txtM m).take 1 == [47]) = headIs 47 (txtM m) := by
        cases txtM m with
        | nil => rfl
        | cons x t => simp [headIs]
      rw [eh]
      refine ite_b (fun c => ?_) (fun c => ?_)
      · repeat (walk_at "pl e")
        refine ⟨by simp, ?_⟩
        rw [if_pos c]
        exact ⟨rfl, by walk_at "pl lo", List.Sublist.refl _⟩
      · repeat (walk_at "pl e")
        rw [if_neg c]
        exact ⟨rfl, by walk_at "pl lo", List.Sublist.refl _⟩
    rintro _ σ' ⟨rfl, hle⟩
    refine TArgs.le hle ?_
    repeat (walk_at "pl e")
    refine CallV.fnI hC' (lawway_ok f24 hb ?_ ?_) (by decide)
    · have hl2 := hF.len
      split
      · simp; (clear hl2 hle σ' hb1 hm hC' C' htv tv hD3 sm2 sm1 hcnt hTok J r1 q4 q3 q2 q1 es qs hje hcost hnW hWs hns hmv mv hmb hmc hmp hml hms encc hFc hFl o hF e3 hk3 hro hC C F_ fd hmm hb X hx f25 f24 f21 f20 fs a25 a24 a23 a22 a21 a20 a18 a17 a16 a15 a14 a13 a9 a g ns ms k3 xs; (first | lia | omega))
      · (clear hle σ' hb1 hm hC' C' htv tv hD3 sm2 sm1 hcnt hTok J r1 q4 q3 q2 q1 es qs hje hcost hnW hWs hns hmv mv hmb hmc hmp hml hms encc hFc hFl o hF e3 hk3 hro hC C F_ fd hmm hb X hx f25 f24 f21 f20 fs a25 a24 a23 a22 a21 a20 a18 a17 a16 a15 a14 a13 a9 a g ns ms k3 xs; (first | lia | omega))
    exact ⟨rfl, by walk_at "pl lo", List.Sublist.refl _⟩
  rw [filterMap_some, show (ms.map fun m => wayV (wayM F m)) = Ws.map wayV from by rw [hWs, List.map_map]; rfl]
  refine .inl ?_
  -- due
  refine TSs.cons ?_
  refine TS.assignTo ?_
  refine TE.callG hC f25 (by kernel_rfl) (by kernel_rfl) ?_
  repeat (walk_at "pl e")
  refine CallV.fnI hC (due_ok f25 hb (by (clear htv tv hD3 sm2 sm1 hcnt hTok J r1 q4 q3 q2 q1 es qs hje hcost hnW hWs hns hmv mv hmb hmc hmp hml hms encc hFc o hF e3 hk3 hro hC C F_ fd hmm hb X hx f25 f24 f21 f20 fs a25 a24 a23 a22 a21 a20 a18 a17 a16 a15 a14 a13 a9 a g ns ms k3 xs; (first | lia | omega))) hFc (fun W hW => ?_) (by rw [hWs, List.length_map]; exact hml) ?_) (by decide)
  · rw [hWs] at hW
    obtain ⟨m, hm, rfl⟩ := List.mem_map.mp hW
    exact ⟨(hmb m hm).wl, (hmb m hm).wc⟩
  refine TAs.tuple hC.calm rfl ?_
  refine TIn.cons (TAs.name (by walk_at "pl st") ?_) rfl
  refine TIn.cons (TAs.name (by walk_at "pl st") ?_) rfl
  refine TIn.cons (TAs.name (by walk_at "pl st") ?_) rfl
  refine TIn.nil ?_
  have hkw : ∀ p ∈ (D0 F Ws).2, charsN p.1 ∧ names? p.1 ∧ sumL p.1 + p.1.length ≤ 500 := fun p hp => by
    rcases hD3 p hp with e | e
    · cases e
    · rw [hWs] at e
      obtain ⟨m, hm, e⟩ := List.mem_map.mp e
      rw [← e]
      exact ⟨(hmb m hm).wc, (hmb m hm).mem.names, (hmb m hm).mem.wl⟩
  have hdw : ∀ d ∈ dirsD F (D0 F Ws).2, charsN d ∧ sumL d + d.length ≤ 500 := fun d hd => by
    rcases (J.mem d).mp (J.dirs.mem_iff.mpr hd) with e | ⟨w, hw, _, e, _⟩
    · rw [e]; exact ⟨hFc, by (clear e hd d hkw htv tv hD3 sm2 sm1 hcnt hTok J r1 q4 q3 q2 q1 es qs hje hcost hnW hWs hns hmv mv hmb hmc hmp hml hms encc hFc o hF e3 hk3 hro hC C F_ fd hmm hb X hx f25 f24 f21 f20 fs a25 a24 a23 a22 a21 a20 a18 a17 a16 a15 a14 a13 a9 a g ns ms k3 xs; (first | lia | omega))⟩
    · obtain ⟨p, hp, rfl⟩ := List.mem_map.mp hw
      obtain ⟨x1, _, x3⟩ := hkw p (J.perm.mem_iff.mp hp)
      have e2 := (take_iff (F := d) (W := p.1)).mpr e
      rw [← e2]
      refine ⟨fun q hq => x1 q (List.mem_of_mem_take hq), ?_⟩
      have := sumL_take p.1 d.length
      rw [List.length_take]; (clear e2 x1 e hw hp hd hkw htv tv hD3 sm2 sm1 hcnt hTok J r1 q4 q3 q2 q1 es qs hje hcost hnW hWs hns hmv mv hmb hmc hmp hml hms encc hFc hFl o hF e3 hk3 hro hC C F_ fd hmm hb X hx f25 f24 f21 f20 fs a25 a24 a23 a22 a21 a20 a18 a17 a16 a15 a14 a13 a9 a g ns ms k3 xs; (first | lia | omega))
  have hDl : (D0 F Ws).2.length < 64 := by rw [← J.perm.length_eq]; exact sm1
  have hdl : (dirsD F (D0 F Ws).2).length < 64 := by rw [← J.dirs.length_eq]; exact sm2
  have hDp := J.perm
  have hDd := J.dirs
  have hDn := J.nd
  clear J hD3 hcnt sm1 sm2 hcost
  generalize (D0 F Ws).1 = vs at htv
  generalize hK : (D0 F Ws).2 = kept at hkw hdw hDl hdl hDp hDd
  generalize hG : dirsD F kept = dirs at hdw hdl hDd
  refine TSs.le (σ' := ⟨[("octets", .bool o), ("told", tv), ("verdicts", .lst (vs.map wordV)), ("kept", .lst (kept.map keptV)), ("folders", .lst (dirs.map wayV))], []⟩) ⟨by walk_at "pl lo", List.Sublist.refl _⟩ ?_
  -- files
  refine TSs.cons ?_
  refine TS.assign (by walk_at "pl st") ?_
  refine TE.callB hC (by kernel_rfl) hb (by decide +kernel) boot_sorted Kept.biA ?_
  refine TArgs.consR rfl ?_
  refine TE.listcompF hC (by walk_at "pl comp") ?_
  repeat (walk_at "pl e")
  refine ⟨Nm × Nat, kept, keptV, fun p => some (pairT o (enc p.1, p.2)), [("octets", .bool o)], [], _, Walk.lst, fun _ _ => trivial, List.Sublist.refl _, by walk_at "pl lf", by (clear hDd hdl hdw hG hDp hkw hK htv vs hDn tv hTok r1 q4 q3 q2 q1 es qs hje hnW hWs hns ns hmv mv hmb hmc hmp hml hms encc hFc hFl o hF e3 hk3 hro hC C F_ fd hmm hb X hx f25 f24 f21 f20 fs a25 a24 a23 a22 a21 a20 a18 a17 a16 a15 a14 a13 a9 a g dirs ms k3 xs; (first | lia | omega)), ?_, ?_⟩
  · intro C' hC' p hp
    obtain ⟨x1, x2, x3⟩ := hkw p hp
    have hel := enc_len p.1
    refine TAs.tuple hC'.calm rfl ?_
    refine TIn.cons (TAs.name (hC'.stL (by kernel_rfl)) ?_) rfl
    refine TIn.cons (TAs.name (hC'.stL (by kernel_rfl)) ?_) rfl
    refine TIn.nil ?_
    refine TIfs.nil ?_
    refine ite_t rfl ?_
    refine TE.tuple ?_
    refine TArgs.consR rfl ?_
    refine TE.callG hC' f21 (by kernel_rfl) (by kernel_rfl) ?_
    refine TArgs.consR rfl ?_
    repeat (walk_at "pl e")
    refine TE.joinS ?_
    repeat (walk_at "pl e")
    refine ⟨_, p.1, rfl, .fz _, ?_, ?_⟩
    · show sumL p.1 + p.1.length * 1 ≤ _
      (clear hel x2 x1 hp hC' C' hDd hdl hdw hG hDp hDl hkw hK htv vs hDn tv hTok r1 q4 q3 q2 q1 es qs hje hnW hWs hns ns hmv mv hmb hmc hmp hml hms encc hFc hFl o hF e3 hk3 hro hC C F_ fd hmm hb X hx f25 f24 f21 f20 fs a25 a24 a23 a22 a21 a20 a18 a17 a16 a15 a14 a13 a9 a g dirs kept ms k3 xs; (first | lia | omega))
    refine Bin.add_txt (by change ([47] ++ joinS [47] p.1).length ≤ _ at hel; rw [List.length_append] at hel; (clear x2 x1 hp hC' C' hDd hdl hdw hG hDp hDl hkw hK htv vs hDn tv hTok r1 q4 q3 q2 q1 es qs hje hnW hWs hns ns hmv mv hmb hmc hmp hml hms encc hFc hFl o hF e3 hk3 hro hC C F_ fd hmm hb X hx f25 f24 f21 f20 fs a25 a24 a23 a22 a21 a20 a18 a17 a16 a15 a14 a13 a9 a g dirs kept ms k3 xs; (first | lia | omega))) ?_
    rw [show [47] ++ joinS [47] p.1 = enc p.1 from rfl]
    repeat (walk_at "pl e")
    refine CallV.fnI hC' (kind_ok f21 hb (by (clear x2 x1 hp hC' C' hDd hdl hdw hG hDp hDl hkw hK htv vs hDn tv hTok r1 q4 q3 q2 q1 es qs hje hnW hWs hns ns hmv mv hmb hmc hmp hml hms encc hFc hFl o hF e3 hk3 hro hC C F_ fd hmm hb X hx f25 f24 f21 f20 fs a25 a24 a23 a22 a21 a20 a18 a17 a16 a15 a14 a13 a9 a g dirs kept ms k3 xs; (first | lia | omega))) (encc _ x1) ?_) (by decide)
    repeat (walk_at "pl e")
    refine ⟨by simp, ?_⟩
    exact ⟨rfl, by walk_at "pl lo", List.Sublist.refl _⟩
  rw [filterMap_some, show (kept.map fun p => pairT o (enc p.1, p.2)) = (kept.map fun p => (enc p.1, p.2)).map (pairT o) from by rw [List.map_map]; rfl]
  refine TArgs.nil ?_
  have fnd : ∀ l : Fo, l.Perm (T0 F Ws).2.1 → ((l.map fun p => (enc p.1, p.2)).map (·.1)).Nodup := fun l hl => by
    rw [List.map_map]
    have e : (l.map ((fun x : List Nat × Nat => x.1) ∘ fun p => (enc p.1, p.2))) = (l.map (·.1)).map enc := by rw [List.map_map]; rfl
    rw [e]
    have hl2 := hl.map (·.1)
    have hln := hl2.nodup_iff.mpr hDn
    unfold List.Nodup
    rw [List.pairwise_map]
    exact List.Pairwise.imp_of_mem (fun {a b} ha hb hab e => hab (enc_inj (hTok.f a (hl2.mem_iff.mp ha)) (hTok.f b (hl2.mem_iff.mp hb)) e)) hln
  refine call_sortedP (.fz _) (by rw [List.length_map]; exact hDl) (fnd kept hDp.symm) fun fl p1 p2 => ?_
  have efl : qs = fl := by
    have hp : qs.Perm fl := q1.trans ((hDp.map _).trans p1.symm)
    exact sorted_uniq (fun x : List Nat × Nat => x.1) (nodup_inj (fun x : List Nat × Nat => x.1) ((q1.map _).nodup_iff.mpr (fnd _ (List.Perm.refl _)))) hp q2 p2
  -- the answer
  refine TSs.cons ?_
  refine TS.ret ?_
  refine TE.cmp ?_
  repeat (walk_at "pl e")
  refine TE.callB hC (by kernel_rfl) hb (by decide +kernel) boot_sorted Kept.biA ?_
  refine TArgs.consR rfl ?_
  refine TE.listcompF hC (by walk_at "pl comp") ?_
  repeat (walk_at "pl e")
  refine ⟨Nm, dirs, wayV, fun d => some (encV o d), [("octets", .bool o)], [], _, Walk.lst, fun _ _ => trivial, List.Sublist.refl _, by walk_at "pl lf", by (clear efl p2 p1 fl fnd hDd hdw hG hDp hDl hkw hK htv vs hDn tv hTok r1 q4 q3 q2 q1 es qs hje hnW hWs hns ns hmv mv hmb hmc hmp hml hms encc hFc hFl o hF e3 hk3 hro hC C F_ fd hmm hb X hx f25 f24 f21 f20 fs a25 a24 a23 a22 a21 a20 a18 a17 a16 a15 a14 a13 a9 a g kept ms k3 xs; (first | lia | omega)), ?_, ?_⟩
  · intro C' hC' d hd
    obtain ⟨x1, x3⟩ := hdw d hd
    have hel := enc_len d
    refine TAs.name (hC'.stL (by kernel_rfl)) ?_
    refine TIfs.nil ?_
    refine ite_t rfl ?_
    refine TE.callG hC' f21 (by kernel_rfl) (by kernel_rfl) ?_
    refine TArgs.consR rfl ?_
    repeat (walk_at "pl e")
    refine TE.joinS ?_
    repeat (walk_at "pl e")
    refine ⟨_, d, rfl, .fz _, ?_, ?_⟩
    · show sumL d + d.length * 1 ≤ _
      (clear hel x1 hd hC' C' efl p2 p1 fl fnd hDd hdl hdw hG hDp hDl hkw hK htv vs hDn tv hTok r1 q4 q3 q2 q1 es qs hje hnW hWs hns ns hmv mv hmb hmc hmp hml hms encc hFc hFl o hF e3 hk3 hro hC C F_ fd hmm hb X hx f25 f24 f21 f20 fs a25 a24 a23 a22 a21 a20 a18 a17 a16 a15 a14 a13 a9 a g dirs kept ms k3 xs; (first | lia | omega))
    refine Bin.add_txt (by change ([47] ++ joinS [47] d).length ≤ _ at hel; rw [List.length_append] at hel; (clear x1 hd hC' C' efl p2 p1 fl fnd hDd hdl hdw hG hDp hDl hkw hK htv vs hDn tv hTok r1 q4 q3 q2 q1 es qs hje hnW hWs hns ns hmv mv hmb hmc hmp hml hms encc hFc hFl o hF e3 hk3 hro hC C F_ fd hmm hb X hx f25 f24 f21 f20 fs a25 a24 a23 a22 a21 a20 a18 a17 a16 a15 a14 a13 a9 a g dirs kept ms k3 xs; (first | lia | omega))) ?_
    rw [show [47] ++ joinS [47] d = enc d from rfl]
    repeat (walk_at "pl e")
    refine CallV.fnI hC' (kind_ok f21 hb (by (clear x1 hd hC' C' efl p2 p1 fl fnd hDd hdl hdw hG hDp hDl hkw hK htv vs hDn tv hTok r1 q4 q3 q2 q1 es qs hje hnW hWs hns ns hmv mv hmb hmc hmp hml hms encc hFc hFl o hF e3 hk3 hro hC C F_ fd hmm hb X hx f25 f24 f21 f20 fs a25 a24 a23 a22 a21 a20 a18 a17 a16 a15 a14 a13 a9 a g dirs kept ms k3 xs; (first | lia | omega))) (encc _ x1) ?_) (by decide)
    exact ⟨rfl, by walk_at "pl lo", List.Sublist.refl _⟩
  rw [filterMap_some, pe_of]
  refine TArgs.nil ?_
  refine call_sortedT (ps := dirs.map enc) (.fz _) (by rw [List.length_map]; exact hdl) fun el p3 p4 => ?_
  have eel : es = el := sorted_uniq id (fun a _ b _ e => e) (q3.trans ((hDd.map _).trans p3.symm)) q4 p4
  repeat (walk_at "pl e")
  refine ⟨by simp, ?_⟩
  rw [htv, efl, eel]
  refine Cmp.eqTup (fun z zs s hR v hv => ?_) ?_
  · have hu := C.hunits
    have hi1 := in1_units C.A
    have hi2 := in1_units C.A.in1
    have hi3 := in1_units C.A.in1.in1
    have k0 : ∀ b o, z b = some o → s.heap.get? b = some o := hR.rh.hz
    simp only [List.mem_cons, List.not_mem_nil, or_false] at hv
    rcases hv with rfl | rfl | rfl
    · refine SameAt.lst k0 (by show _ < 9900; (clear k0 hi3 hi2 hR s zs z eel p4 p3 el efl p2 p1 fl fnd hDd hdl hdw hG hDp hDl hkw hK htv vs hDn tv hTok r1 q4 q3 q2 q1 es qs hje hnW hWs hns ns hmv mv hmb hmc hmp hml hms encc hFc hFl o hF e3 hk3 hro hC F_ fd hmm hb X hx f25 f24 f21 f20 fs a25 a24 a23 a22 a21 a20 a18 a17 a16 a15 a14 a13 a9 a g dirs kept ms k3 xs; (first | lia | omega))) fun v hv => ?_
      obtain ⟨n, _, rfl⟩ := List.mem_map.mp hv
      exact SameAt.txt
    · refine SameAt.lst k0 (by show _ < 9900; (clear k0 hi3 hi2 hR s zs z eel p4 p3 el efl p2 p1 fl fnd hDd hdl hdw hG hDp hDl hkw hK htv vs hDn tv hTok r1 q4 q3 q2 q1 es qs hje hnW hWs hns ns hmv mv hmb hmc hmp hml hms encc hFc hFl o hF e3 hk3 hro hC F_ fd hmm hb X hx f25 f24 f21 f20 fs a25 a24 a23 a22 a21 a20 a18 a17 a16 a15 a14 a13 a9 a g dirs kept ms k3 xs; (first | lia | omega))) fun v hv => ?_
      obtain ⟨p, _, rfl⟩ := List.mem_map.mp hv
      refine SameAt.tup k0 (by show _ < 9900; (clear hv k0 hi3 hR s zs z eel p4 p3 el efl p2 p1 fnd hDd hdl hdw hG hDp hDl hkw hK htv vs hDn tv hTok r1 q4 q3 q2 q1 es qs hje hnW hWs hns ns hmv mv hmb hmc hmp hml hms encc hFc hFl o hF e3 hk3 hro hC F_ fd hmm hb X hx f25 f24 f21 f20 fs a25 a24 a23 a22 a21 a20 a18 a17 a16 a15 a14 a13 a9 a g dirs kept ms k3 xs; (first | lia | omega))) fun v hv => ?_
      simp only [List.mem_cons, List.not_mem_nil, or_false] at hv
      rcases hv with rfl | rfl
      · exact SameAt.txt
      · exact SameAt.int
    · refine SameAt.lst k0 (by show _ < 9900; (clear k0 hi3 hi2 hR s zs z eel p4 p3 el efl p2 p1 fl fnd hDd hdl hdw hG hDp hDl hkw hK htv vs hDn tv hTok r1 q4 q3 q2 q1 es qs hje hnW hWs hns ns hmv mv hmb hmc hmp hml hms encc hFc hFl o hF e3 hk3 hro hC F_ fd hmm hb X hx f25 f24 f21 f20 fs a25 a24 a23 a22 a21 a20 a18 a17 a16 a15 a14 a13 a9 a g dirs kept ms k3 xs; (first | lia | omega))) fun v hv => ?_
      obtain ⟨p, _, rfl⟩ := List.mem_map.mp hv
      exact SameAt.txt
  rfl
end PL

end
open PySem PyProof.Rows
set_option Elab.async false
namespace PL
open PySem.Calls
theorem plain_9 : Plain (recAt P9 9) := by constructor <;> decide +kernel
theorem bind_9 : ∀ (pm code doc : Value) (xs : List Value), xs.length = (parsAt P9 9).length → bindArgs (docDef (recAt P9 9).name (recAt P9 9).params (recAt P9 9).body (recAt P9 9).scope pm code doc) ⟨xs, []⟩ = pure ((parsAt P9 9).zip xs) := by
  intro pm code doc xs h
  have e : (parsAt P9 9).length = 1 := by kernel_rfl
  rw [e] at h
  obtain ⟨x, rfl⟩ := List.length_eq_one_iff.mp h
  kernel_rfl
theorem plain_13 : Plain (recAt P9 13) := by constructor <;> decide +kernel
theorem bind_13 : ∀ (pm code doc : Value) (xs : List Value), xs.length = (parsAt P9 13).length → bindArgs (docDef (recAt P9 13).name (recAt P9 13).params (recAt P9 13).body (recAt P9 13).scope pm code doc) ⟨xs, []⟩ = pure ((parsAt P9 13).zip xs) := by
  intro pm code doc xs h
  have e : (parsAt P9 13).length = 1 := by kernel_rfl
  rw [e] at h
  obtain ⟨x, rfl⟩ := List.length_eq_one_iff.mp h
  kernel_rfl
theorem plain_14 : PlainS (recAt P9 14) := by constructor <;> decide +kernel
theorem bind_14 : ∀ (pm code doc : Value) (xs : List Value), (parsAt P9 14).length ≤ xs.length → bindArgs (docDef (recAt P9 14).name (recAt P9 14).params (recAt P9 14).body (recAt P9 14).scope pm code doc) ⟨xs, []⟩ = (PySem.newTuple (xs.drop (parsAt P9 14).length) >>= fun t => pure ((parsAt P9 14).zip xs ++ [(starAt P9 14, t)])) := by
  intro pm code doc xs h
  have e : (parsAt P9 14).length = 1 := by kernel_rfl
  rw [e] at h ⊢
  match xs, h with
  | [x], _ => kernel_rfl
  | x :: y :: r, _ => kernel_rfl
theorem plain_15 : Plain (recAt P9 15) := by constructor <;> decide +kernel
theorem bind_15 : ∀ (pm code doc : Value) (xs : List Value), xs.length = (parsAt P9 15).length → bindArgs (docDef (recAt P9 15).name (recAt P9 15).params (recAt P9 15).body (recAt P9 15).scope pm code doc) ⟨xs, []⟩ = pure ((parsAt P9 15).zip xs) := by
  intro pm code doc xs h
  have e : (parsAt P9 15).length = 1 := by kernel_rfl
  rw [e] at h
  obtain ⟨x, rfl⟩ := List.length_eq_one_iff.mp h
  kernel_rfl
theorem plain_16 : Plain (recAt P9 16) := by constructor <;> decide +kernel
theorem bind_16 : ∀ (pm code doc : Value) (xs : List Value), xs.length = (parsAt P9 16).length → bindArgs (docDef (recAt P9 16).name (recAt P9 16).params (recAt P9 16).body (recAt P9 16).scope pm code doc) ⟨xs, []⟩ = pure ((parsAt P9 16).zip xs) := by
  intro pm code doc xs h
  have e : (parsAt P9 16).length = 1 := by kernel_rfl
  rw [e] at h
  obtain ⟨x, rfl⟩ := List.length_eq_one_iff.mp h
  kernel_rfl
theorem plain_17 : Plain (recAt P9 17) := by constructor <;> decide +kernel
theorem bind_17 : ∀ (pm code doc : Value) (xs : List Value), xs.length = (parsAt P9 17).length → bindArgs (docDef (recAt P9 17).name (recAt P9 17).params (recAt P9 17).body (recAt P9 17).scope pm code doc) ⟨xs, []⟩ = pure ((parsAt P9 17).zip xs) := by
  intro pm code doc xs h
  have e : (parsAt P9 17).length = 1 := by kernel_rfl
  rw [e] at h
  obtain ⟨x, rfl⟩ := List.length_eq_one_iff.mp h
  kernel_rfl
theorem plain_18 : Plain (recAt P9 18) := by constructor <;> decide +kernel
theorem bind_18 : ∀ (pm code doc : Value) (xs : List Value), xs.length = (parsAt P9 18).length → bindArgs (docDef (recAt P9 18).name (recAt P9 18).params (recAt P9 18).body (recAt P9 18).scope pm code doc) ⟨xs, []⟩ = pure ((parsAt P9 18).zip xs) := by
  intro pm code doc xs h
  have e : (parsAt P9 18).length = 1 := by kernel_rfl
  rw [e] at h
  obtain ⟨x, rfl⟩ := List.length_eq_one_iff.mp h
  kernel_rfl
theorem plain_20 : Plain (recAt P9 20) := by constructor <;> decide +kernel
theorem bind_20 : ∀ (pm code doc : Value) (xs : List Value), xs.length = (parsAt P9 20).length → bindArgs (docDef (recAt P9 20).name (recAt P9 20).params (recAt P9 20).body (recAt P9 20).scope pm code doc) ⟨xs, []⟩ = pure ((parsAt P9 20).zip xs) := by
  intro pm code doc xs h
  have e : (parsAt P9 20).length = 1 := by kernel_rfl
  rw [e] at h
  obtain ⟨x, rfl⟩ := List.length_eq_one_iff.mp h
  kernel_rfl
theorem plain_21 : Plain (recAt P9 21) := by constructor <;> decide +kernel
theorem bind_21 : ∀ (pm code doc : Value) (xs : List Value), xs.length = (parsAt P9 21).length → bindArgs (docDef (recAt P9 21).name (recAt P9 21).params (recAt P9 21).body (recAt P9 21).scope pm code doc) ⟨xs, []⟩ = pure ((parsAt P9 21).zip xs) := by
  intro pm code doc xs h
  have e : (parsAt P9 21).length = 2 := by kernel_rfl
  rw [e] at h
  obtain ⟨x, y, rfl⟩ := len_two h
  kernel_rfl
theorem plain_22 : Plain (recAt P9 22) := by constructor <;> decide +kernel
theorem bind_22 : ∀ (pm code doc : Value) (xs : List Value), xs.length = (parsAt P9 22).length → bindArgs (docDef (recAt P9 22).name (recAt P9 22).params (recAt P9 22).body (recAt P9 22).scope pm code doc) ⟨xs, []⟩ = pure ((parsAt P9 22).zip xs) := by
  intro pm code doc xs h
  have e : (parsAt P9 22).length = 2 := by kernel_rfl
  rw [e] at h
  obtain ⟨x, y, rfl⟩ := len_two h
  kernel_rfl
theorem plain_23 : Plain (recAt P9 23) := by constructor <;> decide +kernel
theorem bind_23 : ∀ (pm code doc : Value) (xs : List Value), xs.length = (parsAt P9 23).length → bindArgs (docDef (recAt P9 23).name (recAt P9 23).params (recAt P9 23).body (recAt P9 23).scope pm code doc) ⟨xs, []⟩ = pure ((parsAt P9 23).zip xs) := by
  intro pm code doc xs h
  have e : (parsAt P9 23).length = 2 := by kernel_rfl
  rw [e] at h
  obtain ⟨x, y, rfl⟩ := len_two h
  kernel_rfl
theorem plain_24 : Plain (recAt P9 24) := by constructor <;> decide +kernel
theorem bind_24 : ∀ (pm code doc : Value) (xs : List Value), xs.length = (parsAt P9 24).length → bindArgs (docDef (recAt P9 24).name (recAt P9 24).params (recAt P9 24).body (recAt P9 24).scope pm code doc) ⟨xs, []⟩ = pure ((parsAt P9 24).zip xs) := by
  intro pm code doc xs h
  have e : (parsAt P9 24).length = 2 := by kernel_rfl
  rw [e] at h
  obtain ⟨x, y, rfl⟩ := len_two h
  kernel_rfl
theorem plain_25 : Plain (recAt P9 25) := by constructor <;> decide +kernel
theorem bind_25 : ∀ (pm code doc : Value) (xs : List Value), xs.length = (parsAt P9 25).length → bindArgs (docDef (recAt P9 25).name (recAt P9 25).params (recAt P9 25).body (recAt P9 25).scope pm code doc) ⟨xs, []⟩ = pure ((parsAt P9 25).zip xs) := by
  intro pm code doc xs h
  have e : (parsAt P9 25).length = 2 := by kernel_rfl
  rw [e] at h
  obtain ⟨x, y, rfl⟩ := len_two h
  kernel_rfl
theorem plain_26 : Plain (recAt P9 26) := by constructor <;> decide +kernel
theorem bind_26 : ∀ (pm code doc : Value) (xs : List Value), xs.length = (parsAt P9 26).length → bindArgs (docDef (recAt P9 26).name (recAt P9 26).params (recAt P9 26).body (recAt P9 26).scope pm code doc) ⟨xs, []⟩ = pure ((parsAt P9 26).zip xs) := by
  intro pm code doc xs h
  have e : (parsAt P9 26).length = 1 := by kernel_rfl
  rw [e] at h
  obtain ⟨x, rfl⟩ := List.length_eq_one_iff.mp h
  kernel_rfl
end PL
namespace PL.hq
theorem tw10150055274617212891 : True := trivial
theorem tw10322038092850174362 : True := trivial
theorem tw10457168521209027674 : True := trivial
theorem tw10578125417638283357 : True := trivial
theorem tw10723393570628874552 : True := trivial
theorem tw10729172266602328586 : True := trivial
theorem tw10881528782123092746 : True := trivial
theorem tw10931295464393272181 : True := trivial
theorem tw10940537674685882115 : True := trivial
theorem tw10994886041549457264 : True := trivial
theorem tw11000781819815587137 : True := trivial
theorem tw11050542447785054316 : True := trivial
theorem tw11195717029766657026 : True := trivial
theorem tw11244646774664661130 : True := trivial
theorem tw116285552138952347 : True := trivial
theorem tw11643923109651329364 : True := trivial
theorem tw11788693337944003873 : True := trivial
theorem tw11908810259791006522 : True := trivial
theorem tw12005465353942320143 : True := trivial
theorem tw12056519460832690200 : True := trivial
theorem tw12208854670899752122 : True := trivial
theorem tw12332524910606763528 : True := trivial
theorem tw1235482344641824276 : True := trivial
theorem tw12445962778074035505 : True := trivial
theorem tw12469437568552266691 : True := trivial
theorem tw12523848078997984307 : True := trivial
theorem tw12572362154380331464 : True := trivial
theorem tw12655837293742700098 : True := trivial
theorem tw12709492719501962588 : True := trivial
theorem tw12772275578942101874 : True := trivial
theorem tw12813963863009017322 : True := trivial
theorem tw13070879886649983486 : True := trivial
theorem tw13074736809216784133 : True := trivial
theorem tw13136604745536518912 : True := trivial
theorem tw13154545043853268745 : True := trivial
theorem tw13235798161960342647 : True := trivial
theorem tw13426379033378961899 : True := trivial
theorem tw13443096486218418413 : True := trivial
theorem tw13493806150206681168 : True := trivial
theorem tw13549075360943805026 : True := trivial
theorem tw13612596976413304410 : True := trivial
theorem tw13811128549203767365 : True := trivial
theorem tw13902122135257893102 : True := trivial
theorem tw1395011816728805360 : True := trivial
theorem tw14050127396031851777 : True := trivial
theorem tw14059725829030920339 : True := trivial
theorem tw14341625433146122062 : True := trivial
theorem tw14349765079874202331 : True := trivial
theorem tw14404082607544834272 : True := trivial
theorem tw14502253293019681933 : True := trivial
theorem tw14743200257444633495 : True := trivial
theorem tw14782969899475878510 : True := trivial
theorem tw15311886777180498106 : True := trivial
theorem tw15469312183689895907 : True := trivial
theorem tw15554228631916190306 : True := trivial
theorem tw15824293280174992066 : True := trivial
theorem tw15898698688588041869 : True := trivial
theorem tw16019180303352569947 : True := trivial
theorem tw16122789142302073874 : True := trivial
theorem tw16318831607075985739 : True := trivial
theorem tw16392860424041057560 : True := trivial
theorem tw16439145762317160429 : True := trivial
theorem tw16449596961266493311 : True := trivial
theorem tw16492304627052442508 : True := trivial
theorem tw1666759469870611197 : True := trivial
theorem tw16954096959209456542 : True := trivial
theorem tw17231537987270250890 : True := trivial
theorem tw17292527579582217065 : True := trivial
theorem tw17317051885394222045 : True := trivial
theorem tw17385372484413650039 : True := trivial
theorem tw17666827210103790498 : True := trivial
theorem tw17730446826199742524 : True := trivial
theorem tw17815990202978304232 : True := trivial
theorem tw17951599353509457776 : True := trivial
theorem tw18087018922417264013 : True := trivial
theorem tw18101516308723118010 : True := trivial
theorem tw18121447135383459017 : True := trivial
theorem tw18137857242630556044 : True := trivial
theorem tw18208495566871879999 : True := trivial
theorem tw18376927660453186172 : True := trivial
theorem tw1875246229275773624 : True := trivial
theorem tw1962460341854704622 : True := trivial
theorem tw2174984794223843757 : True := trivial
theorem tw2176592581420044181 : True := trivial
theorem tw2224419628296556602 : True := trivial
theorem tw2239135016466521070 : True := trivial
theorem tw2279552363207774180 : True := trivial
theorem tw2365004771158793218 : True := trivial
theorem tw2384028385332417888 : True := trivial
theorem tw2404065056368625825 : True := trivial
theorem tw2454452068462306114 : True := trivial
theorem tw2923326128349063942 : True := trivial
theorem tw2957082609756199863 : True := trivial
theorem tw3005828737440608088 : True := trivial
theorem tw32709858493469550 : True := trivial
theorem tw3366810366122488297 : True := trivial
theorem tw3373721358092819055 : True := trivial
theorem tw3597111892374550796 : True := trivial
theorem tw3630418350923066436 : True := trivial
theorem tw3703575223003040081 : True := trivial
theorem tw3900358186380219256 : True := trivial
theorem tw3970925970340267299 : True := trivial
theorem tw4131030150531144260 : True := trivial
theorem tw4370512022440838523 : True := trivial
theorem tw4482613243384148480 : True := trivial
theorem tw4576643854983958864 : True := trivial
theorem tw4599710900037758195 : True := trivial
theorem tw465576554500978497 : True := trivial
theorem tw4710047391621955908 : True := trivial
theorem tw4712760515855164311 : True := trivial
theorem tw4931211677879945270 : True := trivial
theorem tw519397268255633034 : True := trivial
theorem tw5346338207255859092 : True := trivial
theorem tw5377530943617482345 : True := trivial
theorem tw5564211256190892648 : True := trivial
theorem tw5609975511397640031 : True := trivial
theorem tw5669649538260543787 : True := trivial
theorem tw5724091033786990644 : True := trivial
theorem tw6027600073408982536 : True := trivial
theorem tw6038042970738412993 : True := trivial
theorem tw6278770649022532997 : True := trivial
theorem tw6359601116336817604 : True := trivial
theorem tw6361921350988449081 : True := trivial
theorem tw6400979593350638597 : True := trivial
theorem tw6426164013878419807 : True := trivial
theorem tw6594513770607075951 : True := trivial
theorem tw6679670714978796538 : True := trivial
theorem tw6707203532000522902 : True := trivial
theorem tw6729652084136464301 : True := trivial
theorem tw6795441023340180416 : True := trivial
theorem tw6809095355669430329 : True := trivial
theorem tw6856929370144019910 : True := trivial
theorem tw6891327794774082122 : True := trivial
theorem tw689996689215004385 : True := trivial
theorem tw6905322244355667980 : True := trivial
theorem tw7077519796673306802 : True := trivial
theorem tw7172115502284585795 : True := trivial
theorem tw7353386008980756413 : True := trivial
theorem tw7510321012393329538 : True := trivial
theorem tw7516807648445859729 : True := trivial
theorem tw759594803087790493 : True := trivial
theorem tw8034435479796062320 : True := trivial
theorem tw809245011415832620 : True := trivial
theorem tw8148017953013815605 : True := trivial
theorem tw8244119267253919938 : True := trivial
theorem tw8258613477998152431 : True := trivial
theorem tw8341907202065286141 : True := trivial
theorem tw8387202391173974111 : True := trivial
theorem tw8448320729414875279 : True := trivial
theorem tw845083569337076454 : True := trivial
theorem tw8618902379862786811 : True := trivial
theorem tw8653994038256421392 : True := trivial
theorem tw8824609576461991723 : True := trivial
theorem tw898866642159142188 : True := trivial
theorem tw8997635952957059331 : True := trivial
theorem tw9043558548103874264 : True := trivial
theorem tw9096826120843099818 : True := trivial
theorem tw9262597400919477278 : True := trivial
theorem tw9517903804782373198 : True := trivial
theorem tw9523118495404018300 : True := trivial
theorem tw9529226258195214505 : True := trivial
theorem tw9612898263177967027 : True := trivial
theorem tw9671905789914693418 : True := trivial
theorem tw9781565010282851077 : True := trivial
theorem tw9794123146945694145 : True := trivial
theorem tw9866279775617001207 : True := trivial
theorem tw9925263663166883926 : True := trivial
end PL.hq
open PySem.W
set_option Elab.async true in
set_option maxRecDepth 100000 in
set_option maxHeartbeats 8000000 in
theorem PL.hq : PySem.Challenge.rw_km0084_09.Holds := by
  w_on; o_law; o_head Hook.none; (case hw => w_witness2)
  w_strict (
    k_fill
    intro w s₀ s₁ mg mb G Y fa o pm cd doc dV kV ho hd hcd hD hmg hg args vals as hpre hlay hrd hwl hlo
    refine Ground.open G ?_
    intro T B D TE TW
    try (refine guard_noD D (by decide +kernel) ?_; clear D)
    have hlawname := hmg
    try (obtain ⟨_, _, he, B0⟩ := based_of_top T rfl hmg ho hd; have he' : cd = _ := he; subst he'; clear he)
    wrow_args hpre hlay hrd hwl hlo
    all_goals (
      first | refine callC_kw (enter_call ?_) | refine enter_call ?_ | refine callC_kw (enter_callW ?_) | refine enter_callW ?_ | w_how
      w_top on
      try refine codeAny_mono ?_ (fun _ _ g => GoodW.toG g)
      have hfree : PL.Free (PL.gdOf PySem.Challenge.rw_km0084_09.row.prog w s₁ T) PL.BI := PL.free_of T (by decide +kernel)
      obtain ⟨a9, h9⟩ := PL.fn_of (g := PL.gdOf PySem.Challenge.rw_km0084_09.row.prog w s₁ T) PL.plain_9 PL.bind_9 (T.fn (PL.recAt PL.P9 9) (List.mem_of_getElem? (i := 3) (by kernel_rfl)))
      obtain ⟨a13, h13⟩ := PL.fn_of (g := PL.gdOf PySem.Challenge.rw_km0084_09.row.prog w s₁ T) PL.plain_13 PL.bind_13 (T.fn (PL.recAt PL.P9 13) (List.mem_of_getElem? (i := 5) (by kernel_rfl)))
      obtain ⟨a14, h14⟩ := PL.fn_ofS (g := PL.gdOf PySem.Challenge.rw_km0084_09.row.prog w s₁ T) PL.plain_14 PL.bind_14 (T.fn (PL.recAt PL.P9 14) (List.mem_of_getElem? (i := 6) (by kernel_rfl)))
      obtain ⟨a15, h15⟩ := PL.fn_of (g := PL.gdOf PySem.Challenge.rw_km0084_09.row.prog w s₁ T) PL.plain_15 PL.bind_15 (T.fn (PL.recAt PL.P9 15) (List.mem_of_getElem? (i := 7) (by kernel_rfl)))
      obtain ⟨a16, h16⟩ := PL.fn_of (g := PL.gdOf PySem.Challenge.rw_km0084_09.row.prog w s₁ T) PL.plain_16 PL.bind_16 (T.fn (PL.recAt PL.P9 16) (List.mem_of_getElem? (i := 8) (by kernel_rfl)))
      obtain ⟨a17, h17⟩ := PL.fn_of (g := PL.gdOf PySem.Challenge.rw_km0084_09.row.prog w s₁ T) PL.plain_17 PL.bind_17 (T.fn (PL.recAt PL.P9 17) (List.mem_of_getElem? (i := 9) (by kernel_rfl)))
      obtain ⟨a18, h18⟩ := PL.fn_of (g := PL.gdOf PySem.Challenge.rw_km0084_09.row.prog w s₁ T) PL.plain_18 PL.bind_18 (T.fn (PL.recAt PL.P9 18) (List.mem_of_getElem? (i := 10) (by kernel_rfl)))
      obtain ⟨a20, h20⟩ := PL.fn_of (g := PL.gdOf PySem.Challenge.rw_km0084_09.row.prog w s₁ T) PL.plain_20 PL.bind_20 (T.fn (PL.recAt PL.P9 20) (List.mem_of_getElem? (i := 11) (by kernel_rfl)))
      obtain ⟨a21, h21⟩ := PL.fn_of (g := PL.gdOf PySem.Challenge.rw_km0084_09.row.prog w s₁ T) PL.plain_21 PL.bind_21 (T.fn (PL.recAt PL.P9 21) (List.mem_of_getElem? (i := 12) (by kernel_rfl)))
      obtain ⟨a22, h22⟩ := PL.fn_of (g := PL.gdOf PySem.Challenge.rw_km0084_09.row.prog w s₁ T) PL.plain_22 PL.bind_22 (T.fn (PL.recAt PL.P9 22) (List.mem_of_getElem? (i := 13) (by kernel_rfl)))
      obtain ⟨a23, h23⟩ := PL.fn_of (g := PL.gdOf PySem.Challenge.rw_km0084_09.row.prog w s₁ T) PL.plain_23 PL.bind_23 (T.fn (PL.recAt PL.P9 23) (List.mem_of_getElem? (i := 14) (by kernel_rfl)))
      obtain ⟨a24, h24⟩ := PL.fn_of (g := PL.gdOf PySem.Challenge.rw_km0084_09.row.prog w s₁ T) PL.plain_24 PL.bind_24 (T.fn (PL.recAt PL.P9 24) (List.mem_of_getElem? (i := 15) (by kernel_rfl)))
      obtain ⟨a25, h25⟩ := PL.fn_of (g := PL.gdOf PySem.Challenge.rw_km0084_09.row.prog w s₁ T) PL.plain_25 PL.bind_25 (T.fn (PL.recAt PL.P9 25) (List.mem_of_getElem? (i := 16) (by kernel_rfl)))
      obtain ⟨a26, h26⟩ := PL.fn_of (g := PL.gdOf PySem.Challenge.rw_km0084_09.row.prog w s₁ T) PL.plain_26 PL.bind_26 (T.fn (PL.recAt PL.P9 26) (List.mem_of_getElem? (i := 17) (by kernel_rfl)))
      have hfa : a26 = fa := by
        have e1 := h26.1
        have e2 := hlawname
        have e3 : some (Value.ref a26) = some (Value.ref fa) := e1.symm.trans e2
        cases e3; rfl
      subst hfa
      rename_i hlen63 _
      refine PL.finish T hg (by assumption) ?_ (raisesW_false ?_) ?_
      · refine PL.law9_ok h26 ⟨hfree, h9, h13, h14, h15, h16, h17, h18, h22, h23⟩ h20 h21 h24 h25 ?_
        omega
      · wrow_none_raised
      · wrow_post))
theorem PySem.Challenge.cw_km0084_09_holds : PySem.Challenge.rw_km0084_09.Holds := by
  exact PL.hq


