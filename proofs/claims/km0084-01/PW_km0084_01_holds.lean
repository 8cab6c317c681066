import PyProof.Rows.All
import PyProof.RaisesAny
import PyProof.RulesRaise
import PyProof.ExcFactsAll.TypeError
import PyProof.ExcFactsAll.ValueError
import PyProof.IsiPairs
import PyProof.IsiTupleAll
import PyProof.ListMulAny
import PyProof.Rows.EqDataRows
import PyProof.TupleOfSeq
import PyProof.SetRoads
import Wide.Ends
import KE.KSortAsk
import KE.KSortTup
import Wide.All
import OpenK.AllK
import Wide.FinOn
import PySem.Challenge.RW_km0084_01
set_option compiler.extract_closed false
set_option genSizeOf false
section
open PySem PySem.Calls PyProof.Rows
set_option Elab.async false
set_option linter.unusedVariables false
namespace PL

/-! abstract values -/
inductive V where
  | none
  | bool (b : Bool)
  | int (i : Int)
  | txt (o : Bool) (l : List Nat)
  | tup (vs : List V)
  | lst (vs : List V)
  | ref (a : Addr)
  | con (v : Value)
  | rng (a b c : Int)
  | opq (T : String)

noncomputable abbrev Z := Addr → Option Obj
noncomputable def Z.le (z z' : Z) : Prop := ∀ b o, z b = some o → z' b = some o
theorem Z.le_refl (z : Z) : Z.le z z := fun _ _ h => h
theorem Z.le_trans {a b c : Z} (h : Z.le a b) (k : Z.le b c) : Z.le a c := fun x o e => k x o (h x o e)
noncomputable def Z.put (z : Z) (a : Addr) (o : Obj) : Z := fun b => if b = a then some o else z b

noncomputable abbrev tupO (items : List Value) (n : Nat) : Obj := { cls := .type "tuple", data := .seq items.toArray n }
noncomputable abbrev lstO (items : List Value) (n : Nat) : Obj := { cls := .type "list", data := .seq items.toArray n }

mutual
inductive Rep (z : Z) : V → Value → Prop
  | none : Rep z .none .none
  | bool (b : Bool) : Rep z (.bool b) (.bool b)
  | int (i : Int) (t : Tok) : Rep z (.int i) (.int i t)
  | str (l : List Nat) (t : Tok) : Rep z (.txt false l) (.str ⟨l.toArray⟩ t)
  | bytes (l : List Nat) (t : Tok) (h : ∀ c ∈ l, c < 256) : Rep z (.txt true l) (.bytes (l.map UInt8.ofNat).toArray t)
  | tup {vs : List V} {a : Addr} {items : List Value} {n : Nat} (h : z a = some (tupO items n)) (hr : RepL z vs items) : Rep z (.tup vs) (.ref a)
  | lst {vs : List V} {a : Addr} {items : List Value} {n : Nat} (h : z a = some (lstO items n)) (hr : RepL z vs items) : Rep z (.lst vs) (.ref a)
  | ref (a : Addr) : Rep z (.ref a) (.ref a)
  | con (v : Value) : Rep z (.con v) v
  | rng {x y w : Int} {a : Addr} {t u v : Tok} (h : z a = some { cls := .type "range", dict := none, data := .fields #[.int x t, .int y u, .int w v], slots := #[] }) : Rep z (.rng x y w) (.ref a)
  | opq {T : String} {a : Addr} {o : Obj} (h : z a = some o) (hc : o.cls = .type T) : Rep z (.opq T) (.ref a)
inductive RepL (z : Z) : List V → List Value → Prop
  | nil : RepL z [] []
  | cons {v : V} {x : Value} {vs : List V} {xs : List Value} (h : Rep z v x) (t : RepL z vs xs) : RepL z (v :: vs) (x :: xs)
end

theorem Rep.mono {z z' : Z} (h : Z.le z z') {v : V} {x : Value} (r : Rep z v x) : Rep z' v x :=
  Rep.rec (motive_1 := fun v x _ => Rep z' v x) (motive_2 := fun v x _ => RepL z' v x) .none .bool .int .str .bytes (fun e _ ih => .tup (h _ _ e) ih) (fun e _ ih => .lst (h _ _ e) ih) .ref .con (fun e => .rng (h _ _ e)) (fun e hc => .opq (h _ _ e) hc) .nil (fun _ _ a b => .cons a b) r
theorem RepL.ind {z : Z} {P : List V → List Value → Prop} (nil : P [] []) (cons : ∀ {v : V} {x : Value} {vs : List V} {xs : List Value}, Rep z v x → RepL z vs xs → P vs xs → P (v :: vs) (x :: xs)) {vs : List V} {xs : List Value} (r : RepL z vs xs) : P vs xs :=
  RepL.rec (motive_1 := fun _ _ _ => True) (motive_2 := fun v x _ => P v x) trivial (fun _ => trivial) (fun _ _ => trivial) (fun _ _ => trivial) (fun _ _ _ => trivial) (fun _ _ _ => trivial) (fun _ _ _ => trivial) (fun _ => trivial) (fun _ => trivial) (fun _ => trivial) (fun _ _ => trivial) nil (fun a b _ ih => cons a b ih) r
theorem RepL.mono {z z' : Z} (h : Z.le z z') {v : List V} {x : List Value} (r : RepL z v x) : RepL z' v x :=
  r.ind (P := RepL z') .nil fun a _ ih => .cons (a.mono h) ih
theorem RepL.inv {z : Z} {v : V} {vs : List V} {ys : List Value} (r : RepL z (v :: vs) ys) : ∃ x xs, ys = x :: xs ∧ Rep z v x ∧ RepL z vs xs := by
  cases r with | cons a t => exact ⟨_, _, rfl, a, t⟩
theorem RepL.inv0 {z : Z} {ys : List Value} (r : RepL z [] ys) : ys = [] := by cases r; rfl

/-- what a value looks like -/
noncomputable def RepE (z : Z) : V → Value → Prop
  | .none, x => ∃ _ : Tok, x = .none
  | .bool b, x => ∃ _ : Tok, x = .bool b
  | .int i, x => ∃ t, x = .int i t
  | .txt false l, x => ∃ t, x = .str ⟨l.toArray⟩ t
  | .txt true l, x => ∃ t, x = .bytes (l.map UInt8.ofNat).toArray t ∧ ∀ c ∈ l, c < 256
  | .tup vs, x => ∃ a items n, x = .ref a ∧ z a = some (tupO items n) ∧ RepL z vs items
  | .lst vs, x => ∃ a items n, x = .ref a ∧ z a = some (lstO items n) ∧ RepL z vs items
  | .ref a, x => ∃ _ : Tok, x = .ref a
  | .con v, x => ∃ _ : Tok, x = v
  | .rng i j k, x => ∃ a t u v, x = .ref a ∧ z a = some { cls := .type "range", dict := none, data := .fields #[.int i t, .int j u, .int k v], slots := #[] }
  | .opq T, x => ∃ a o, x = .ref a ∧ z a = some o ∧ o.cls = .type T
theorem Rep.e {z : Z} {v : V} {x : Value} (r : Rep z v x) : RepE z v x :=
  Rep.rec (motive_1 := fun v x _ => RepE z v x) (motive_2 := fun _ _ _ => True) ⟨0, rfl⟩ (fun _ => ⟨0, rfl⟩) (fun _ t => ⟨t, rfl⟩) (fun _ t => ⟨t, rfl⟩) (fun _ t h => ⟨t, rfl, h⟩) (fun h hr _ => ⟨_, _, _, rfl, h, hr⟩) (fun h hr _ => ⟨_, _, _, rfl, h, hr⟩) (fun _ => ⟨0, rfl⟩) (fun _ => ⟨0, rfl⟩) (fun h => ⟨_, _, _, _, rfl, h⟩) (fun h hc => ⟨_, _, rfl, h, hc⟩) trivial (fun _ _ _ _ => trivial) r
theorem Rep.txt_ {z : Z} {o : Bool} {l : List Nat} {x : Value} (r : Rep z (.txt o l) x) : (o = false ∧ ∃ t, x = .str ⟨l.toArray⟩ t) ∨ (o = true ∧ ∃ t, x = .bytes (l.map UInt8.ofNat).toArray t ∧ ∀ c ∈ l, c < 256) := by
  cases o with
  | false => exact .inl ⟨rfl, r.e⟩
  | true => exact .inr ⟨rfl, r.e⟩
theorem RepL.length {z : Z} {vs : List V} {xs : List Value} (r : RepL z vs xs) : xs.length = vs.length :=
  r.ind (P := fun vs xs => xs.length = vs.length) rfl fun _ _ ih => congrArg (· + 1) ih
theorem RepL.append {z : Z} {vs vs' : List V} {xs xs' : List Value} (r : RepL z vs xs) (h : RepL z vs' xs') : RepL z (vs ++ vs') (xs ++ xs') :=
  r.ind (P := fun vs xs => RepL z (vs ++ vs') (xs ++ xs')) h fun a _ ih => .cons a ih
theorem RepL.get {z : Z} {vs : List V} {xs : List Value} (r : RepL z vs xs) : ∀ {i : Nat} {v : V}, vs[i]? = some v → ∃ x, xs[i]? = some x ∧ Rep z v x :=
  r.ind (P := fun vs xs => ∀ {i : Nat} {v : V}, vs[i]? = some v → ∃ x, xs[i]? = some x ∧ Rep z v x) (fun h => nomatch h) fun {_ x _ _} a _ ih {i v} h => by
    cases i with
    | zero => have e := Option.some.inj h; exact ⟨x, rfl, e ▸ a⟩
    | succ i => exact ih h

inductive RepP {K : Type} (z : Z) : List (K × V) → List (K × Value) → Prop
  | nil : RepP z [] []
  | cons {k : K} {v : V} {x : Value} {l : List (K × V)} {m : List (K × Value)} (h : Rep z v x) (t : RepP z l m) : RepP z ((k, v) :: l) ((k, x) :: m)
theorem RepP.mono {K : Type} {z z' : Z} (h : Z.le z z') {l : List (K × V)} {m : List (K × Value)} (r : RepP z l m) : RepP z' l m := by
  induction r with
  | nil => exact .nil
  | cons a _ ih => exact .cons (a.mono h) ih

/-! the live objects of the ledger -/
inductive AO where
  | list (vs : List V)
  | dictS (kvs : List (Str × V))
  | dictI (kvs : List (Int × V))
  | raw (o : Obj)
  | iter (vs : List V) (i : Nat)

structure Gd where
  prog : Program
  w : World
  base : Heap
  os : OsState
  mg : Str → Option Value
  mb : Str → Option Value
  hmg : base.Ns mainGlobals mg
  hmb : base.Ns builtinsNs mb
  lim : base.NoLimit
  hbi : ∀ x : Str, x ≠ "__name__" → mb x = bootBuiltins x

noncomputable def strOf (l : List Nat) : Str := ⟨l.toArray⟩

noncomputable def AOK (g : Gd) (z : Z) (h : Heap) (a : Addr) : AO → Prop
  | .list vs => ∃ items n, h.get? a = some (lstO items n) ∧ RepL z vs items
  | .dictS kvs => ∃ ys, h.DictOf (strKind g.prog g.w) a ys ∧ RepP z kvs ys ∧ (a == sysModules) = false
  | .dictI kvs => ∃ ys, h.DictOf (intKind g.prog g.w) a ys ∧ RepP z kvs ys ∧ (a == sysModules) = false
  | .raw o => h.get? a = some o
  | .iter vs i => ∃ l items n o, h.get? a = some o ∧ (o.cls = .type "list_iterator" ∧ o.data = .fields #[.ref l, .int (i : Int) 0]) ∧ z l = some (lstO items n) ∧ RepL z vs items

theorem AOK.mono {g : Gd} {z z' : Z} {h : Heap} {a : Addr} (hz : Z.le z z') {o : AO} (k : AOK g z h a o) : AOK g z' h a o := by
  cases o with
  | list _ => obtain ⟨i, n, x, r⟩ := k; exact ⟨i, n, x, r.mono hz⟩
  | dictS _ => obtain ⟨i, x, r, m⟩ := k; exact ⟨i, x, r.mono hz, m⟩
  | dictI _ => obtain ⟨i, x, r, m⟩ := k; exact ⟨i, x, r.mono hz, m⟩
  | raw _ => exact k
  | iter _ _ => obtain ⟨l, items, n, o, x, y, q, r⟩ := k; exact ⟨l, items, n, o, x, y, hz _ _ q, r.mono hz⟩
theorem AOK.keep {g : Gd} {z : Z} {h h' : Heap} {a : Addr} (e : ∀ o, h.get? a = some o → h'.get? a = some o) {o : AO} (k : AOK g z h a o) : AOK g z h' a o := by
  cases o with
  | list _ => obtain ⟨i, n, x, r⟩ := k; exact ⟨i, n, e _ x, r⟩
  | dictS _ => obtain ⟨i, ⟨o, es, ep, ho, q⟩, r⟩ := k; exact ⟨i, ⟨o, es, ep, e o ho, q⟩, r⟩
  | dictI _ => obtain ⟨i, ⟨o, es, ep, ho, q⟩, r⟩ := k; exact ⟨i, ⟨o, es, ep, e o ho, q⟩, r⟩
  | raw o => exact e o k
  | iter _ _ => obtain ⟨l, items, n, o, x, r⟩ := k; exact ⟨l, items, n, o, e o x, r⟩

noncomputable abbrev Led := List (Addr × AO)
structure St where
  loc : List (Str × V)
  H : Led

/-- the heap's part of the relation -/
structure RH (g : Gd) (zs : Z) (H : Led) (z : Z) (s : Shared) : Prop where
  hz : ∀ b o, z b = some o → s.heap.get? b = some o
  hbase : ∀ b o, g.base.get? b = some o → z b = some o
  hzs : ∀ b o, zs b = some o → ∃ sl, s.heap.get? b = some { o with slots := sl } ∧ ((∀ vs ep, o.data ≠ .dict vs ep) → sl = o.slots)
  disj : ∀ b o, zs b = some o → z b = none
  hH : ∀ p ∈ H, AOK g z s.heap p.1 p.2 ∧ z p.1 = none ∧ zs p.1 = none
  nodup : (H.map (·.1)).Nodup
  gens : s.gens = #[]
  os : s.os = g.os

structure Cx where
  g : Gd
  A : Around
  env : Env
  outer : List Env
  n : Nat
  ro : List Str := []
  hk : env.scope.kind = .function
  hglob : env.globals = mainGlobals
  hbuilt : env.builtins = builtinsNs
  hdep : A.depth + n ≤ 900
  hunits : A.units + 20 * n ≤ 9000
  hframes : (A.frames = some (env :: outer) ∧ env.frame = some env.locals) ∨ A.frames = some outer
  apart : env.cells.Pairwise fun x y => x.2 ≠ y.2

noncomputable abbrev Cx.M (C : Cx) : Model := model C.g.prog C.g.w

noncomputable def cellish : Option NameKind → Bool
  | some .cell => true
  | some .free => true
  | _ => false

structure FrOK (outer : List Env) (zs : Z) : Prop where
  ok : ∀ e ∈ outer, e.scope.kind ≠ .module ∧ ∃ L o, e.frame = some L ∧ zs L = some o ∧ ∃ es ep, o.data = .dict es ep

structure R (C : Cx) (zs : Z) (σ : St) (z : Z) (s : Shared) : Prop where
  rh : RH C.g zs σ.H z s
  ns : ∃ m, s.heap.Ns C.env.locals m ∧ ∀ x v, σ.loc.lookup x = some v → C.env.kindOf x = some .local → ∃ val, m x = some val ∧ Rep z v val
  cells : ∀ x v, σ.loc.lookup x = some v → cellish (C.env.kindOf x) = true → ∃ c val, C.env.cells.lookup x = some c ∧ s.heap.IsCell c (some val) ∧ Rep z v val
  cellsOk : ∀ p ∈ C.env.cells, (∃ ov, s.heap.IsCell p.2 ov) ∧ z p.2 = none ∧ (zs p.2 = none ∨ p.1 ∈ C.ro) ∧ p.2 ≠ C.env.locals ∧ p.2 ∉ σ.H.map (·.1)
  locFree : z C.env.locals = none ∧ zs C.env.locals = none ∧ C.env.locals ∉ σ.H.map (·.1)
  fr : FrOK C.outer zs

noncomputable abbrev XP := String → St → Prop

/-- an exception in flight: made here, traced, or traced and at this frame -/
noncomputable def MadeIn (h : Heap) (a : Addr) (cls : String) : Prop := ∃ oe vs a0, h.get? a = some oe ∧ oe.cls = .type cls ∧ oe.data = .fields vs ∧ vs[1]? = some .none ∧ vs[0]? = some a0 ∧ ∃ c, vs[2]? = some c
noncomputable def Track (h B : Heap) (fr : List Env) (a : Addr) (cls : String) : Prop :=
  MadeIn h a cls ∨ (∃ a0, h.TracedW B a (.type cls) a0) ∨ ∃ env rest L a0, fr = env :: rest ∧ env.frame = some L ∧ h.TracedAtW B a (.type cls) a0 (rawInt L)
structure FlyB (g : Gd) (zs : Z) (H : Led) (z : Z) (fr : List Env) (s : Shared) (a : Addr) (cls : String) (B : Heap) : Prop where
  stays : B.StaysIn s.heap
  new : B.get? a = none
  frames : s.heap.FunFrames B fr
  hz : ∀ b o, z b = some o → B.get? b = some o
  led : ∀ p ∈ H, AOK g z B p.1 p.2
  hid : ∀ b o, zs b = some o → (∀ vs ep, o.data ≠ .dict vs ep) → B.get? b = some o
  track : Track s.heap B fr a cls
noncomputable def Fly (g : Gd) (zs : Z) (H : Led) (z : Z) (fr : List Env) (s : Shared) (e : Value) (cls : String) : Prop := ∃ a B, e = .ref a ∧ FlyB g zs H z fr s a cls B

inductive PX (C : Cx) (zs z : Z) (X : XP) (e : Value) (s' : Shared) : Prop
  | mk (z' : Z) (σ' : St) (cls : String) (fr : List Env) (le : Z.le z z') (r : R C zs σ' z' s') (q : C.A.frames = some fr) (f : Fly C.g zs σ'.H z' fr s' e cls) (x : X cls σ')
theorem PX.le {C : Cx} {zs z z1 : Z} {X : XP} {e : Value} {s : Shared} (h : Z.le z z1) (k : PX C zs z1 X e s) : PX C zs z X e s := by
  cases k with | mk z' σ' cls fr l r q f x => exact ⟨z', σ', cls, fr, Z.le_trans h l, r, q, f, x⟩
noncomputable abbrev X0 : XP := fun _ _ => False
theorem PX.absurd {C : Cx} {zs z : Z} {e : Value} {s : Shared} (h : PX C zs z X0 e s) {P : Prop} : P := by
  cases h with | mk z' σ' cls fr l r q f x => exact x.elim

inductive Post {α : Type} (C : Cx) (zs z : Z) (P : Z → α → St → Prop) (a : α) (s' : Shared) : Prop
  | mk (z' : Z) (σ' : St) (le : Z.le z z') (r : R C zs σ' z' s') (p : P z' a σ')
noncomputable def TT {α : Type} (C : Cx) (z₀ : Z) (t : Sem α) (P : Z → α → St → Prop) (X : XP) (σ : St) : Prop :=
  ∀ zs z s, Z.le z₀ z → R C zs σ z s →
    wpAny C.M C.A t (Post C zs z P) (PX C zs z X) s

section
variable {α β : Type} {C : Cx} {z₀ : Z} {X : XP} {σ : St}

theorem TT.bind {m : Sem α} {f : α → Sem β} {P : Z → β → St → Prop} (h : TT C z₀ m (fun z a σ1 => TT C z (f a) P X σ1) X σ) : TT C z₀ (m >>= f) P X σ := by
  intro zs z s hz hR
  refine wpAny_bind (wpAny_mono (h zs z s hz hR) ?_ fun _ _ x => x)
  rintro a s1 ⟨z1, σ1, l1, R1, k⟩
  refine wpAny_mono (k zs z1 s1 (Z.le_refl _) R1) ?_ fun _ _ x => PX.le l1 x
  rintro b s2 ⟨z2, σ2, l2, R2, q⟩
  exact ⟨z2, σ2, Z.le_trans l1 l2, R2, q⟩
theorem TT.pure {a : α} {P : Z → α → St → Prop} (h : ∀ z, Z.le z₀ z → P z a σ) : TT C z₀ (Pure.pure a) P X σ :=
  fun _ z _ hz hR => wpAny_pure ⟨z, σ, Z.le_refl _, hR, h z hz⟩
theorem TT.mono {t : Sem α} {P P' : Z → α → St → Prop} (h : TT C z₀ t P X σ) (k : ∀ z a σ', Z.le z₀ z → P z a σ' → P' z a σ') : TT C z₀ t P' X σ := by
  intro zs z s hz hR
  refine wpAny_mono (h zs z s hz hR) ?_ fun _ _ x => x
  rintro a s1 ⟨z1, σ1, l1, R1, q⟩
  exact ⟨z1, σ1, l1, R1, k _ _ _ (Z.le_trans hz l1) q⟩
theorem TT.eq {t : Sem α} {a : α} {P : Z → α → St → Prop} (e : t = Pure.pure a) (h : ∀ z, Z.le z₀ z → P z a σ) : TT C z₀ t P X σ := e ▸ TT.pure h
theorem TT.holding {vs : List Value} {t : Sem α} {P : Z → α → St → Prop} (h : TT C z₀ t P X σ) : TT C z₀ (PySem.holding vs t) P X σ :=
  fun zs z s hz hR => wpAny_holding (h zs z s hz hR)
theorem TT.operate {vs : List Value} {t : Sem Value} {P : Z → Value → St → Prop} (h : TT C z₀ t P X σ) : TT C z₀ (PySem.operate vs t) P X σ :=
  fun zs z s hz hR => wpAny_operate' (h zs z s hz hR)
theorem TT.at_ {p : Pos} {f : Unit → Sem α} {P : Z → α → St → Prop} (h : TT C z₀ (f ()) P X σ) : TT C z₀ (standAt p >>= f) P X σ :=
  fun zs z s hz hR => wpAny_bind (wpAny_standAt (h zs z s hz hR))
end

/-- what an expression hands on -/
inductive PVal (Q : V → St → Prop) (z : Z) (val : Value) (σ : St) : Prop
  | mk (v : V) (r : Rep z v val) (q : Q v σ)
noncomputable def TE (C : Cx) (e : Expr) (Q : V → St → Prop) (X : XP) (σ : St) : Prop := ∀ z₀, TT C z₀ (eval e C.env) (PVal Q) X σ

inductive Fl where
  | next | brk | cont
  | ret (v : V)
inductive RepF (z : Z) : Fl → Flow → Prop
  | next : RepF z .next .next
  | brk : RepF z .brk .brk
  | cont : RepF z .cont .cont
  | ret {v : V} {x : Value} (h : Rep z v x) : RepF z (.ret v) (.ret x)
inductive PFl (Q : Fl → St → Prop) (z : Z) (f : Flow) (σ : St) : Prop
  | mk (fl : Fl) (r : RepF z fl f) (q : Q fl σ)
noncomputable def TS (C : Cx) (st : Stmt) (Q : Fl → St → Prop) (X : XP) (σ : St) : Prop := ∀ z₀, TT C z₀ (exec st C.env) (PFl Q) X σ
noncomputable def TSs (C : Cx) (sts : List Stmt) (Q : Fl → St → Prop) (X : XP) (σ : St) : Prop := ∀ z₀, TT C z₀ (execs sts C.env) (PFl Q) X σ
/-- a test -/
noncomputable def TB (C : Cx) (e : Expr) (Q : Bool → St → Prop) (X : XP) (σ : St) : Prop := ∀ z₀, TT C z₀ (isTrue e C.env (eval e C.env)) (fun _ b σ' => Q b σ') X σ

section
variable {C : Cx} {zs z : Z} {σ : St} {s : Shared}

theorem RH.grow {g : Gd} {H : Led} (r : RH g zs H z s) {h' : Heap} {t : Nat} (k : ∀ b o, s.heap.get? b = some o → h'.get? b = some o) : RH g zs H z { s with heap := h', toks := t } where
  hz b o e := k b o (r.hz b o e)
  hbase := r.hbase
  hzs b o e := let ⟨sl, q, w⟩ := r.hzs b o e; ⟨sl, k _ _ q, w⟩
  disj := r.disj
  hH p hp := let ⟨a, b⟩ := r.hH p hp; ⟨a.keep fun o ho => k _ _ ho, b⟩
  nodup := r.nodup
  gens := r.gens
  os := r.os
theorem R.grow (r : R C zs σ z s) {h' : Heap} {t : Nat} (k : ∀ b o, s.heap.get? b = some o → h'.get? b = some o) : R C zs σ z { s with heap := h', toks := t } where
  rh := r.rh.grow k
  ns := let ⟨m, a, b⟩ := r.ns; ⟨m, a.keeps k, b⟩
  cells x v h1 h2 := let ⟨c, val, a, b, d⟩ := r.cells x v h1 h2; ⟨c, val, a, b.keeps k, d⟩
  cellsOk p hp := let ⟨⟨ov, a⟩, b⟩ := r.cellsOk p hp; ⟨⟨ov, a.keeps k⟩, b⟩
  locFree := r.locFree
  fr := r.fr
theorem R.toks (r : R C zs σ z s) (t : Nat) : R C zs σ z { s with toks := t } := r.grow fun _ _ e => e
theorem R.push (r : R C zs σ z s) (o : Obj) (t : Nat) : R C zs σ z { s with heap := s.heap.push o, toks := t } := r.grow fun _ _ e => Heap.get?_push_of_some _ e
theorem R.push' (r : R C zs σ z s) (o : Obj) : R C zs σ z { s with heap := s.heap.push o } := r.push o s.toks

noncomputable def Apart (C : Cx) (zs : Z) (σ : St) (a : Addr) : Prop := zs a = none ∧ a ≠ C.env.locals ∧ a ∉ σ.H.map (·.1) ∧ ∀ p ∈ C.env.cells, p.2 ≠ a

theorem RH.lt_z {g : Gd} {H : Led} (r : RH g zs H z s) {b : Addr} {o : Obj} (e : z b = some o) : b < s.heap.objs.size := Heap.lt_size (r.hz b o e)
theorem RH.fresh_z {g : Gd} {H : Led} (r : RH g zs H z s) {b : Addr} (e : s.heap.objs.size ≤ b) : z b = none := by
  cases h : z b with
  | none => rfl
  | some o => exact absurd (r.lt_z h) (Nat.not_lt.mpr e)
theorem RH.fresh_zs {g : Gd} {H : Led} (r : RH g zs H z s) {b : Addr} (e : s.heap.objs.size ≤ b) : zs b = none := by
  cases h : zs b with
  | none => rfl
  | some o => obtain ⟨sl, q, _⟩ := r.hzs _ _ h; exact absurd (Heap.lt_size q) (Nat.not_lt.mpr e)
theorem AOK.lt {g : Gd} {h : Heap} {a : Addr} {o : AO} (k : AOK g z h a o) : a < h.objs.size := by
  cases o with
  | list _ => obtain ⟨_, _, ho, _⟩ := k; exact Heap.lt_size ho
  | dictS _ => obtain ⟨_, ⟨_, _, _, ho, _⟩, _⟩ := k; exact Heap.lt_size ho
  | dictI _ => obtain ⟨_, ⟨_, _, _, ho, _⟩, _⟩ := k; exact Heap.lt_size ho
  | raw _ => exact Heap.lt_size k
  | iter _ _ => obtain ⟨_, _, _, _, x, _⟩ := k; exact Heap.lt_size x
theorem RH.fresh_H {g : Gd} {H : Led} (r : RH g zs H z s) {b : Addr} (e : s.heap.objs.size ≤ b) : b ∉ H.map (·.1) := by
  intro hb
  obtain ⟨p, hp, rfl⟩ := List.mem_map.mp hb
  exact absurd (r.hH p hp).1.lt (Nat.not_lt.mpr e)
theorem R.apart_new (r : R C zs σ z s) {a : Addr} (h : s.heap.objs.size ≤ a) : Apart C zs σ a := by
  refine ⟨r.rh.fresh_zs h, ?_, r.rh.fresh_H h, ?_⟩
  · intro e
    obtain ⟨m, n, _⟩ := r.ns
    exact absurd n.lt (Nat.not_lt.mpr (e ▸ h))
  · intro p hp e
    obtain ⟨⟨ov, c⟩, _⟩ := r.cellsOk p hp
    exact absurd c.lt (Nat.not_lt.mpr (e ▸ h))

theorem Z.le_put {g : Gd} {H : Led} (r : RH g zs H z s) {a : Addr} {o : Obj} (e : s.heap.get? a = some o) : Z.le z (z.put a o) := by
  intro b o' hb
  unfold Z.put
  by_cases h : b = a
  · subst h; rw [if_pos rfl]; rw [r.hz _ _ hb] at e; exact e.symm
  · rw [if_neg h]; exact hb
theorem put_ne {a b : Addr} {o : Obj} (h : b ≠ a) (e : z b = none) : z.put a o b = none := by unfold Z.put; rw [if_neg h]; exact e
theorem put_self {a : Addr} {o : Obj} : z.put a o a = some o := if_pos rfl

theorem RH.freeze {g : Gd} {H : Led} (r : RH g zs H z s) {a : Addr} {o : Obj} (e : s.heap.get? a = some o) (h1 : zs a = none) (h2 : a ∉ H.map (·.1)) : RH g zs H (z.put a o) s where
  hz b o' h := by
    unfold Z.put at h
    by_cases hb : b = a
    · subst hb; rw [if_pos rfl] at h; cases h; exact e
    · rw [if_neg hb] at h; exact r.hz b o' h
  hbase b o' h := Z.le_put r e _ _ (r.hbase b o' h)
  hzs := r.hzs
  disj b o' h := put_ne (fun q => by subst q; rw [h1] at h; cases h) (r.disj b o' h)
  hH p hp := by
    obtain ⟨x, y, w⟩ := r.hH p hp
    refine ⟨x.mono (Z.le_put r e), put_ne (fun q => h2 ?_) y, w⟩
    rw [← q]; exact List.mem_map_of_mem hp
  nodup := r.nodup
  gens := r.gens
  os := r.os
theorem R.freeze (r : R C zs σ z s) {a : Addr} {o : Obj} (e : s.heap.get? a = some o) (q : Apart C zs σ a) : R C zs σ (z.put a o) s where
  rh := r.rh.freeze e q.1 q.2.2.1
  ns := let ⟨m, x, y⟩ := r.ns; ⟨m, x, fun n v h1 h2 => let ⟨val, u, w⟩ := y n v h1 h2; ⟨val, u, w.mono (Z.le_put r.rh e)⟩⟩
  cells x v h1 h2 := let ⟨c, val, u, w, t⟩ := r.cells x v h1 h2; ⟨c, val, u, w, t.mono (Z.le_put r.rh e)⟩
  cellsOk p hp := let ⟨u, w, t⟩ := r.cellsOk p hp; ⟨u, put_ne (q.2.2.2 p hp) w, t⟩
  locFree := ⟨put_ne (Ne.symm q.2.1) r.locFree.1, r.locFree.2⟩
  fr := r.fr

/-- a new object goes into the frozen part -/
theorem R.frozen (r : R C zs σ z s) (o : Obj) (t : Nat) (hf : o.isFreed = false := by rfl) :
    R C zs σ (z.put s.heap.objs.size o) { s with heap := s.heap.push o, toks := t } ∧ Z.le z (z.put s.heap.objs.size o) :=
  have e : ({ s with heap := s.heap.push o, toks := t } : Shared).heap.get? s.heap.objs.size = some o := Heap.get?_push_size _ hf
  have r' := r.push o t
  ⟨r'.freeze e (r.apart_new (Nat.le_refl _)), Z.le_put r'.rh e⟩

/-- a new object goes onto the ledger -/
theorem RH.ledger {g : Gd} {H : Led} (r : RH g zs H z s) {a : Addr} {o : AO} (h : AOK g z s.heap a o) (h0 : z a = none) (h1 : zs a = none) (h2 : a ∉ H.map (·.1)) : RH g zs ((a, o) :: H) z s where
  hz := r.hz
  hbase := r.hbase
  hzs := r.hzs
  disj := r.disj
  hH p hp := by
    rcases List.mem_cons.mp hp with e | hp
    · subst e; exact ⟨h, h0, h1⟩
    · exact r.hH p hp
  nodup := by rw [List.map_cons]; exact List.nodup_cons.mpr ⟨h2, r.nodup⟩
  gens := r.gens
  os := r.os
theorem R.ledger (r : R C zs σ z s) {a : Addr} {o : AO} (h : AOK C.g z s.heap a o) (h0 : z a = none) (q : Apart C zs σ a) : R C zs ⟨σ.loc, (a, o) :: σ.H⟩ z s where
  rh := r.rh.ledger h h0 q.1 q.2.2.1
  ns := r.ns
  cells := r.cells
  cellsOk p hp := let ⟨u, w, t, v, y⟩ := r.cellsOk p hp; ⟨u, w, t, v, by
    rw [List.map_cons, List.mem_cons]; exact fun e => e.elim (q.2.2.2 p hp) y⟩
  locFree := ⟨r.locFree.1, r.locFree.2.1, by
    rw [List.map_cons, List.mem_cons]; exact fun e => e.elim (fun e => q.2.1 e.symm) r.locFree.2.2⟩
  fr := r.fr

inductive Upd (a : Addr) (o o' : AO) : Led → Led → Prop
  | head {t : Led} : Upd a o o' ((a, o) :: t) ((a, o') :: t)
  | tail {p : Addr × AO} {t t' : Led} (h : Upd a o o' t t') : Upd a o o' (p :: t) (p :: t')
theorem Upd.keys {a : Addr} {o o' : AO} {H H' : Led} (u : Upd a o o' H H') : H'.map (·.1) = H.map (·.1) := by
  induction u with
  | head => rfl
  | tail _ ih => simp [ih]
theorem Upd.mem {a : Addr} {o o' : AO} {H H' : Led} (u : Upd a o o' H H') : (a, o) ∈ H := by
  induction u with
  | head => exact List.mem_cons_self
  | tail _ ih => exact List.mem_cons_of_mem _ ih
theorem Upd.of_mem {a : Addr} {o o' : AO} {H H' : Led} (u : Upd a o o' H H') (hn : (H.map (·.1)).Nodup) : ∀ p ∈ H', p = (a, o') ∨ (p ∈ H ∧ p.1 ≠ a) := by
  induction u with
  | head =>
    intro p hp
    rw [List.map_cons, List.nodup_cons] at hn
    rcases List.mem_cons.mp hp with e | hp
    · exact .inl e
    · exact .inr ⟨List.mem_cons_of_mem _ hp, fun e => hn.1 (e ▸ List.mem_map_of_mem (f := (·.1)) hp)⟩
  | tail u' ih =>
    intro p hp
    rw [List.map_cons, List.nodup_cons] at hn
    rcases List.mem_cons.mp hp with e | hp
    · subst e
      exact .inr ⟨List.mem_cons_self, fun e => hn.1 (e ▸ List.mem_map_of_mem (f := (·.1)) u'.mem)⟩
    · exact (ih hn.2 p hp).imp id fun ⟨x, y⟩ => ⟨List.mem_cons_of_mem _ x, y⟩

theorem RH.upd {g : Gd} {H H' : Led} (r : RH g zs H z s) {a : Addr} {o o' : AO} (u : Upd a o o' H H') {h' : Heap} {t : Nat} (hs : Heap.SameBut a s.heap h') (k : AOK g z h' a o') :
    RH g zs H' z { s with heap := h', toks := t } where
  hz b o e := (hs.2 b fun q => by have := (r.hH _ u.mem).2.1; subst q; rw [this] at e; cases e).trans (r.hz b o e)
  hbase := r.hbase
  hzs b o e := let ⟨sl, q, w⟩ := r.hzs b o e; ⟨sl, (hs.2 b fun q => by have := (r.hH _ u.mem).2.2; subst q; rw [this] at e; cases e).trans q, w⟩
  disj := r.disj
  hH p hp := by
    rcases u.of_mem r.nodup p hp with e | ⟨hm, hn⟩
    · subst e; exact ⟨k, (r.hH _ u.mem).2⟩
    · obtain ⟨x, y⟩ := r.hH p hm
      exact ⟨x.keep fun o ho => (hs.2 _ hn).trans ho, y⟩
  nodup := by rw [u.keys]; exact r.nodup
  gens := r.gens
  os := r.os
theorem R.upd {H' : Led} (r : R C zs σ z s) {a : Addr} {o o' : AO} (u : Upd a o o' σ.H H') {h' : Heap} {t : Nat} (hs : Heap.SameBut a s.heap h') (k : AOK C.g z h' a o') :
    R C zs ⟨σ.loc, H'⟩ z { s with heap := h', toks := t } where
  rh := r.rh.upd u hs k
  ns := let ⟨m, x, y⟩ := r.ns; ⟨m, x.sameBut hs fun e => r.locFree.2.2 (e ▸ List.mem_map_of_mem (f := (·.1)) u.mem), y⟩
  cells x v h1 h2 := let ⟨c, val, p, q, w⟩ := r.cells x v h1 h2
    ⟨c, val, p, q.sameBut hs fun e => (r.cellsOk (x, c) (mem_of_lookup p)).2.2.2.2 (e ▸ List.mem_map_of_mem (f := (·.1)) u.mem), w⟩
  cellsOk p hp := let ⟨⟨ov, x⟩, y, w, q, n⟩ := r.cellsOk p hp
    ⟨⟨ov, x.sameBut hs fun e => n (e ▸ List.mem_map_of_mem (f := (·.1)) u.mem)⟩, y, w, q, by show p.2 ∉ H'.map (·.1); rw [u.keys]; exact n⟩
  locFree := ⟨r.locFree.1, r.locFree.2.1, by show _ ∉ H'.map (·.1); rw [u.keys]; exact r.locFree.2.2⟩
  fr := r.fr

/-- less is known -/
theorem R.weaken {σ' : St} (r : R C zs σ z s) (h1 : ∀ x v, σ'.loc.lookup x = some v → σ.loc.lookup x = some v) (h2 : σ'.H.Sublist σ.H) : R C zs σ' z s where
  rh := { r.rh with hH := fun p hp => r.rh.hH p (h2.subset hp), nodup := r.rh.nodup.sublist (h2.map _) }
  ns := let ⟨m, x, y⟩ := r.ns; ⟨m, x, fun n v a b => y n v (h1 n v a) b⟩
  cells x v a b := r.cells x v (h1 x v a) b
  cellsOk p hp := let ⟨a, b, c, d, e⟩ := r.cellsOk p hp; ⟨a, b, c, d, fun q => e ((h2.map _).subset q)⟩
  locFree := ⟨r.locFree.1, r.locFree.2.1, fun q => r.locFree.2.2 ((h2.map _).subset q)⟩
  fr := r.fr
end

theorem TT.weaken {α : Type} {C : Cx} {z₀ : Z} {t : Sem α} {P : Z → α → St → Prop} {X : XP} {σ σ' : St} (h1 : ∀ x v, σ'.loc.lookup x = some v → σ.loc.lookup x = some v) (h2 : σ'.H.Sublist σ.H)
    (h : TT C z₀ t P X σ') : TT C z₀ t P X σ := fun zs z s hz hR => h zs z s hz (hR.weaken h1 h2)
end PL

end
section
open PySem PySem.Calls PyProof.Rows
set_option Elab.async false
set_option linter.unusedVariables false
set_option linter.unusedSimpArgs false
namespace PL

noncomputable def setL : List (Str × V) → Str → V → List (Str × V)
  | [], x, v => [(x, v)]
  | (y, w) :: r, x, v => if x == y then (y, v) :: r else (y, w) :: setL r x v
theorem lookup_setL (x : Str) (v : V) (y : Str) : ∀ l : List (Str × V), (setL l x v).lookup y = if y = x then some v else l.lookup y
  | [] => by
    by_cases h : y = x
    · subst h; simp [setL, List.lookup]
    · have : (y == x) = false := beq_eq_false_iff_ne.mpr h
      simp [setL, List.lookup, this, h]
  | (k, w) :: r => by
    unfold setL
    by_cases hk : x = k
    · subst hk
      rw [if_pos (by simp)]
      by_cases h : y = x
      · subst h; simp [List.lookup]
      · have : (y == x) = false := beq_eq_false_iff_ne.mpr h
        simp [List.lookup, this, h]
    · rw [if_neg (by simpa using hk)]
      by_cases h : y = k
      · subst h
        have hyx : ¬ y = x := fun e => hk e.symm
        simp [List.lookup, hyx]
      · have : (y == k) = false := beq_eq_false_iff_ne.mpr h
        rw [List.lookup_cons, this]
        simp only
        rw [lookup_setL x v y r, List.lookup_cons, this]

section
variable {C : Cx} {X : XP} {σ : St} {zs z z₀ : Z} {s : Shared}

theorem RH.base {g : Gd} {H : Led} (r : RH g zs H z s) : ∀ b o, g.base.get? b = some o → s.heap.get? b = some o := fun b o e => r.hz b o (r.hbase b o e)

/-- a value handed on with no change of the state but the tokens -/
theorem PVal.toks {Q : V → St → Prop} (hR : R C zs σ z s) {v : V} {x : Value} {t : Nat} (r : Rep z v x) (h : Q v σ) :
    Post C zs z (PVal Q) x { s with toks := t } := ⟨z, σ, Z.le_refl _, hR.toks t, v, r, h⟩
theorem PVal.same {Q : V → St → Prop} (hR : R C zs σ z s) {v : V} {x : Value} (r : Rep z v x) (h : Q v σ) :
    Post C zs z (PVal Q) x s := ⟨z, σ, Z.le_refl _, hR, v, r, h⟩

theorem TE.name_local {x : Str} {p : Pos} {v : V} {Q : V → St → Prop} (hl : C.env.kindOf x = some .local) (hv : σ.loc.lookup x = some v) (h : Q v σ) (hd : (x == ("__debug__" : Str)) = false := by decide) :
    TE C (.Name x p) Q X σ := by
  intro z₀ zs z s hz hR
  obtain ⟨m, hn, hm⟩ := hR.ns
  obtain ⟨val, e, r⟩ := hm x v hv hl
  exact wpAny_Name (wpAny_loadName_local C.hk hl hn e (PVal.same hR r h)) hd
theorem TE.name_glob {x : Str} {p : Pos} {v : Value} {Q : V → St → Prop} (hl : C.env.kindOf x = some .globalImplicit) (hv : C.g.mg x = some v) (h : Q (.con v) σ) (hd : (x == ("__debug__" : Str)) = false := by decide) :
    TE C (.Name x p) Q X σ := by
  intro z₀ zs z s hz hR
  refine Name_function_global C.hk hl (loadGlobal_global (mg := C.g.mg) ?_ hv (PVal.same hR (.con v) h)) hd
  rw [C.hglob]; exact C.g.hmg.keeps hR.rh.base
theorem TE.name_builtin {x : Str} {p : Pos} {v : Value} {Q : V → St → Prop} (hl : C.env.kindOf x = some .globalImplicit) (hm : C.g.mg x = none) (hv : bootBuiltins x = some v) (h : Q (.con v) σ)
    (hd : (x == ("__debug__" : Str)) = false := by decide) (hn : x ≠ "__name__" := by decide) : TE C (.Name x p) Q X σ := by
  intro z₀ zs z s hz hR
  refine Name_function_global C.hk hl (loadGlobal_builtin (mg := C.g.mg) (mb := C.g.mb) ?_ hm ?_ ((C.g.hbi x hn).trans hv) (PVal.same hR (.con v) h)) hd
  · rw [C.hglob]; exact C.g.hmg.keeps hR.rh.base
  · rw [C.hbuilt]; exact C.g.hmb.keeps hR.rh.base

theorem TE.const_int {i : Int} {k : Nat} {p : Pos} {Q : V → St → Prop} (h : Q (.int i) σ) : TE C (.Constant (.int i) k p) Q X σ :=
  fun z₀ zs z s hz hR => wpAny_Constant_int (PVal.toks hR (.int i _) h)
theorem TE.const_none {k : Nat} {p : Pos} {Q : V → St → Prop} (h : Q .none σ) : TE C (.Constant .none k p) Q X σ :=
  fun z₀ zs z s hz hR => wpAny_Constant_none (PVal.same hR .none h)
theorem TE.const_bool {b : Bool} {k : Nat} {p : Pos} {Q : V → St → Prop} (h : Q (.bool b) σ) : TE C (.Constant (.bool b) k p) Q X σ :=
  fun z₀ zs z s hz hR => wpAny_Constant_bool (PVal.same hR (.bool b) h)
theorem rep_str (x : Str) (t : Tok) : Rep z (.txt false x.cps.toList) (.str x t) := by
  have : x = ⟨x.cps.toList.toArray⟩ := by simp
  conv => rhs; rw [this]
  exact .str _ t
theorem TE.const_str {x : Str} {k : Nat} {p : Pos} {Q : V → St → Prop} (h : Q (.txt false x.cps.toList) σ) : TE C (.Constant (.str x) k p) Q X σ :=
  fun z₀ zs z s hz hR => wpAny_Constant_str (PVal.toks hR (rep_str x _) h)
theorem rep_bytes (b : List UInt8) (t : Tok) : Rep z (.txt true (b.map UInt8.toNat)) (.bytes b.toArray t) := by
  have : b = (b.map UInt8.toNat).map UInt8.ofNat := by simp [List.map_map, Function.comp_def]
  conv => rhs; rw [this]
  exact .bytes _ t (fun c hc => by
    obtain ⟨d, _, rfl⟩ := List.mem_map.mp hc
    exact UInt8.toNat_lt d)
theorem TE.const_bytes {b : List UInt8} {k : Nat} {p : Pos} {Q : V → St → Prop} (h : Q (.txt true (b.map UInt8.toNat)) σ) : TE C (.Constant (.bytes b) k p) Q X σ :=
  fun z₀ zs z s hz hR => wpAny_mkTextBytes (PVal.toks hR (rep_bytes b _) h)

/-! operators -/
noncomputable def Bin (C : Cx) (op : Operator) (a b : V) (Q : V → St → Prop) (X : XP) (σ : St) : Prop := ∀ z₀ x y, Rep z₀ a x → Rep z₀ b y → TT C z₀ (binaryOp op x y) (PVal Q) X σ
noncomputable def Un (C : Cx) (op : UnaryOp) (a : V) (Q : V → St → Prop) (X : XP) (σ : St) : Prop := ∀ z₀ x, Rep z₀ a x → TT C z₀ (unaryOp op x) (PVal Q) X σ
noncomputable def Cmp (C : Cx) (op : CmpOp) (a b : V) (Q : V → St → Prop) (X : XP) (σ : St) : Prop := ∀ z₀ x y, Rep z₀ a x → Rep z₀ b y → TT C z₀ (compareOp op x y) (PVal Q) X σ
noncomputable def Tru (C : Cx) (a : V) (Q : Bool → St → Prop) (X : XP) (σ : St) : Prop := ∀ z₀ x, Rep z₀ a x → TT C z₀ (truthy x) (fun _ b σ' => Q b σ') X σ

theorem TE.binop {l r : Expr} {op : Operator} {p : Pos} {Q : V → St → Prop} (h : TE C l (fun a σ1 => TE C r (fun b σ2 => Bin C op a b Q X σ2) X σ1) X σ) : TE C (.BinOp l op r p) Q X σ := by
  intro z₀
  rw [eval_BinOp]
  refine TT.bind (TT.mono (h z₀) ?_)
  rintro z a σ1 l1 ⟨va, ra, h1⟩
  refine TT.bind (TT.holding (TT.mono (h1 z) ?_))
  rintro z' b σ2 l2 ⟨vb, rb, h2⟩
  exact TT.at_ (TT.operate (h2 z' a b (ra.mono l2) rb))
theorem TE.unop {x : Expr} {op : UnaryOp} {p : Pos} {Q : V → St → Prop} (h : TE C x (fun a σ1 => Un C op a Q X σ1) X σ) : TE C (.UnaryOp op x p) Q X σ := by
  intro z₀
  rw [arm_eval_UnaryOp]
  refine TT.bind (TT.mono (h z₀) ?_)
  rintro z a σ1 l1 ⟨va, ra, h1⟩
  exact TT.at_ (TT.holding (h1 z a ra))
theorem TE.cmp {l r : Expr} {op : CmpOp} {p : Pos} {Q : V → St → Prop} (h : TE C l (fun a σ1 => TE C r (fun b σ2 => Cmp C op a b Q X σ2) X σ1) X σ) (hm : behindInMarks op r = false := by with_unfolding_all rfl) :
    TE C (.Compare l [op] [r] p) Q X σ := by
  intro z₀
  rw [eval_Compare1, markedBehindIn_of_false hm]
  refine TT.bind (TT.mono (h z₀) ?_)
  rintro z a σ1 l1 ⟨va, ra, h1⟩
  refine TT.bind (TT.holding (TT.mono (h1 z) ?_))
  rintro z' b σ2 l2 ⟨vb, rb, h2⟩
  exact TT.at_ (TT.operate (h2 z' a b (ra.mono l2) rb))
inductive IsB (Q : Bool → St → Prop) (v : V) (σ : St) : Prop
  | mk (b : Bool) (e : v = .bool b) (q : Q b σ)
theorem TB.cmp {l r : Expr} {op : CmpOp} {p : Pos} {Q : Bool → St → Prop} (h : TE C l (fun a σ1 => TE C r (fun b σ2 => Cmp C op a b (IsB Q) X σ2) X σ1) X σ) (hm : behindInMarks op r = false := by with_unfolding_all rfl) :
    TB C (.Compare l [op] [r] p) Q X σ := by
  intro z₀
  rw [isTrue_Compare1, markedBehindIn_of_false hm]
  refine TT.bind (TT.mono (h z₀) ?_)
  rintro z a σ1 l1 ⟨va, ra, h1⟩
  refine TT.bind (TT.holding (TT.mono (h1 z) ?_))
  rintro z' b σ2 l2 ⟨vb, rb, h2⟩
  refine TT.at_ (TT.bind (TT.operate (TT.mono (h2 z' a b (ra.mono l2) rb) ?_)))
  rintro z'' c σ3 l3 ⟨vc, rc, b, rfl, h3⟩
  cases rc
  refine TT.holding (TT.eq (a := b) rfl fun _ _ => h3)
theorem TB.val {e : Expr} {Q : Bool → St → Prop} (h : TE C e (fun v σ1 => Tru C v Q X σ1) X σ) (he : isTrue e C.env (eval e C.env) = (do let v ← eval e C.env; standAt e.pos; holding [v] (truthy v)) := by rfl) : TB C e Q X σ := by
  intro z₀
  rw [he]
  refine TT.bind (TT.mono (h z₀) ?_)
  rintro z a σ1 l1 ⟨va, ra, h1⟩
  exact TT.at_ (TT.holding (h1 z a ra))
noncomputable def TBall (C : Cx) (op : BoolOp) (es : List Expr) (Q : Bool → St → Prop) (X : XP) (σ : St) : Prop := ∀ z₀, TT C z₀ (allTrue op es C.env) (fun _ b σ' => Q b σ') X σ
theorem TB.boolop {op : BoolOp} {es : List Expr} {p : Pos} {Q : Bool → St → Prop} (h : TBall C op es Q X σ) : TB C (.BoolOp op es p) Q X σ := by
  intro z₀; rw [arm_isTrue_BoolOp]; exact h z₀
theorem TBall.or_nil {Q : Bool → St → Prop} (h : Q false σ) : TBall C .Or [] Q X σ := fun z₀ => TT.pure fun _ _ => h
theorem TBall.and_cons {x : Expr} {rest : List Expr} {Q : Bool → St → Prop} (h : TB C x (fun b σ1 => if b then TBall C .And rest Q X σ1 else Q false σ1) X σ) : TBall C .And (x :: rest) Q X σ := by
  intro z₀
  show TT C z₀ (do match BoolOp.And, ← isTrue x C.env (eval x C.env) with | .And, false => pure false | .Or, true => pure true | _, _ => allTrue .And rest C.env) _ X σ
  refine TT.bind (TT.mono (h z₀) ?_)
  rintro z b σ1 l1 h1
  cases b
  · exact TT.pure fun _ _ => h1
  · exact h1 z
theorem TBall.or_cons {x : Expr} {rest : List Expr} {Q : Bool → St → Prop} (h : TB C x (fun b σ1 => if b then Q true σ1 else TBall C .Or rest Q X σ1) X σ) : TBall C .Or (x :: rest) Q X σ := by
  intro z₀
  show TT C z₀ (do match BoolOp.Or, ← isTrue x C.env (eval x C.env) with | .And, false => pure false | .Or, true => pure true | _, _ => allTrue .Or rest C.env) _ X σ
  refine TT.bind (TT.mono (h z₀) ?_)
  rintro z b σ1 l1 h1
  cases b
  · exact h1 z
  · exact TT.pure fun _ _ => h1
theorem TE.ifexp {t b o : Expr} {p : Pos} {Q : V → St → Prop} (h : TB C t (fun c σ1 => if c then TE C b Q X σ1 else TE C o Q X σ1) X σ) : TE C (.IfExp t b o p) Q X σ := by
  intro z₀
  rw [arm_eval_IfExp]
  refine TT.bind (TT.mono (h z₀) ?_)
  rintro z c σ1 l1 h1
  cases c
  · exact h1 z
  · exact h1 z
/-! displays and arguments -/
inductive PArgs (Q : List V → St → Prop) (z : Z) (xs : List Value) (σ : St) : Prop
  | mk (vs : List V) (r : RepL z vs xs) (q : Q vs σ)
noncomputable def TArgs (C : Cx) (es : List Expr) (Q : List V → St → Prop) (X : XP) (σ : St) : Prop := ∀ pos z₀, TT C z₀ (spliced (backTo pos (starEach es C.env))) (PArgs Q) X σ
theorem TArgs.nil {Q : List V → St → Prop} (h : Q [] σ) : TArgs C [] Q X σ := fun pos z₀ => TT.pure fun z _ => ⟨[], .nil, h⟩
theorem TArgs.cons {e : Expr} {r : List Expr} {Q : List V → St → Prop} (h : TE C e (fun v σ1 => TArgs C r (fun vs σ2 => Q (v :: vs) σ2) X σ1) X σ)
    (he : starEach (e :: r) C.env = (false, eval e C.env) :: starEach r C.env := by rfl) : TArgs C (e :: r) Q X σ := by
  intro pos z₀
  rw [he]
  show TT C z₀ (do
    let v ← eval e C.env
    let here ← (pure [v] : Sem (List Value))
    return here ++ (← holding here (spliced (backTo pos (starEach r C.env))))) _ X σ
  refine TT.bind (TT.mono (h z₀) ?_)
  rintro z a σ1 l1 ⟨va, ra, h1⟩
  refine TT.bind (TT.pure fun z1 l2 => TT.bind (TT.holding (TT.mono (h1 pos z1) ?_)))
  rintro z2 xs σ2 l3 ⟨vs, rs, h2⟩
  exact TT.pure fun z3 l4 => ⟨va :: vs, .cons (((ra.mono l2).mono l3).mono l4) (rs.mono l4), h2⟩

theorem size_ok {n : Nat} (h : n ≤ 16777216) : n ≤ sizeLine := by rw [sizeLine_eq]; exact h

/-- a new tuple of known values -/
theorem TT.newTuple {vs : List V} {xs : List Value} {Q : V → St → Prop} (r : RepL z₀ vs xs) (hn : vs.length ≤ 16777216) (h : Q (.tup vs) σ) : TT C z₀ (PySem.newTuple xs) (PVal Q) X σ := by
  intro zs z s hz hR
  refine wpAny_newTuple ?_ (by rw [r.length]; exact size_ok hn)
  obtain ⟨R', l⟩ := hR.frozen { cls := .type "tuple", data := .seq xs.toArray } s.toks
  exact ⟨_, _, l, R', _, .tup put_self ((r.mono hz).mono l), h⟩
/-- a new list, frozen -/
theorem TT.newListF {vs : List V} {xs : List Value} {Q : V → St → Prop} (r : RepL z₀ vs xs) (hn : vs.length ≤ 16777216) (h : Q (.lst vs) σ) : TT C z₀ (PySem.newList xs) (PVal Q) X σ := by
  intro zs z s hz hR
  refine wpAny_newList ?_ (by rw [r.length]; exact size_ok hn)
  obtain ⟨R', l⟩ := hR.frozen { cls := .type "list", data := .seq xs.toArray } s.toks
  exact ⟨_, _, l, R', _, .lst put_self ((r.mono hz).mono l), h⟩
/-- a new list, live -/
theorem TT.newListM {vs : List V} {xs : List Value} {Q : V → St → Prop} (r : RepL z₀ vs xs) (hn : vs.length ≤ 16777216) (h : ∀ a, Q (.ref a) ⟨σ.loc, (a, .list vs) :: σ.H⟩) : TT C z₀ (PySem.newList xs) (PVal Q) X σ := by
  intro zs z s hz hR
  refine wpAny_newList ?_ (by rw [r.length]; exact size_ok hn)
  have R' := hR.push' { cls := .type "list", data := .seq xs.toArray }
  refine ⟨z, _, Z.le_refl _, R'.ledger (a := s.heap.objs.size) (o := .list vs) ⟨xs, 0, Heap.get?_push_size _ rfl, r.mono hz⟩ (hR.rh.fresh_z (Nat.le_refl _)) ?_, _, .ref _, h _⟩
  exact hR.apart_new (Nat.le_refl _)

theorem TE.tuple {es : List Expr} {k : Nat} {p : Pos} {Q : V → St → Prop} (h : TArgs C es (fun vs σ1 => vs.length ≤ 16777216 ∧ Q (.tup vs) σ1) X σ) : TE C (.Tuple es k p) Q X σ := by
  intro z₀
  rw [arm_eval_Tuple]
  refine TT.at_ (TT.bind (TT.mono (h p z₀) ?_))
  rintro z xs σ1 l ⟨vs, r, hn, hq⟩
  exact TT.newTuple r hn hq
theorem TE.listF {es : List Expr} {p : Pos} {Q : V → St → Prop} (h : TArgs C es (fun vs σ1 => vs.length ≤ 16777216 ∧ Q (.lst vs) σ1) X σ) : TE C (.List es p) Q X σ := by
  intro z₀
  rw [arm_eval_List]
  refine TT.at_ (TT.bind (TT.mono (h p z₀) ?_))
  rintro z xs σ1 l ⟨vs, r, hn, hq⟩
  exact TT.newListF r hn hq
theorem TE.listM {es : List Expr} {p : Pos} {Q : V → St → Prop} (h : TArgs C es (fun vs σ1 => vs.length ≤ 16777216 ∧ ∀ a, Q (.ref a) ⟨σ1.loc, (a, .list vs) :: σ1.H⟩) X σ) : TE C (.List es p) Q X σ := by
  intro z₀
  rw [arm_eval_List]
  refine TT.at_ (TT.bind (TT.mono (h p z₀) ?_))
  rintro z xs σ1 l ⟨vs, r, hn, hq⟩
  exact TT.newListM r hn hq
end

/-! storing -/
section
variable {C : Cx} {X : XP} {σ : St} {zs z z₀ : Z} {s : Shared}

theorem R.storeL (hR : R C zs σ z s) {x : Str} {v : V} {val : Value} {h' : Heap} {t : Nat} {m : Str → Option Value} (hm : ∀ y u, σ.loc.lookup y = some u → C.env.kindOf y = some .local → ∃ w, m y = some w ∧ Rep z u w) (hl : C.env.kindOf x = some .local) (r : Rep z v val)
    (hn : h'.Ns C.env.locals (fun y => if y = x then some val else m y)) (hs : Heap.SameBut C.env.locals s.heap h') :
    R C zs ⟨setL σ.loc x v, σ.H⟩ z { s with heap := h', toks := t } := by
  have ne : ∀ b o, z b = some o → b ≠ C.env.locals := fun b o e q => by rw [q, hR.locFree.1] at e; cases e
  have nes : ∀ b o, zs b = some o → b ≠ C.env.locals := fun b o e q => by rw [q, hR.locFree.2.1] at e; cases e
  refine ⟨⟨fun b o e => (hs.2 b (ne b o e)).trans (hR.rh.hz b o e), hR.rh.hbase, fun b o e => ?_, hR.rh.disj, fun p hp => ?_, hR.rh.nodup, hR.rh.gens, hR.rh.os⟩, ⟨_, hn, fun y u hy hk => ?_⟩, fun y u hy hk => ?_, fun p hp => ?_, hR.locFree, hR.fr⟩
  · obtain ⟨sl, q, w⟩ := hR.rh.hzs b o e
    exact ⟨sl, (hs.2 b (nes b o e)).trans q, w⟩
  · obtain ⟨a, b⟩ := hR.rh.hH p hp
    exact ⟨a.keep fun o ho => (hs.2 _ fun q => hR.locFree.2.2 (q ▸ List.mem_map_of_mem (f := (·.1)) hp)).trans ho, b⟩
  · rw [lookup_setL] at hy
    by_cases h : y = x
    · subst h; rw [if_pos rfl] at hy; cases hy; exact ⟨val, by simp, r⟩
    · rw [if_neg h] at hy
      obtain ⟨w, q, r'⟩ := hm y u hy hk
      exact ⟨w, by simp [h, q], r'⟩
  · rw [lookup_setL] at hy
    by_cases h : y = x
    · subst h; rw [hl] at hk; cases hk
    · rw [if_neg h] at hy
      obtain ⟨c, w, a, b, d⟩ := hR.cells y u hy hk
      exact ⟨c, w, a, b.sameBut hs (hR.cellsOk (y, c) (mem_of_lookup a)).2.2.2.1, d⟩
  · obtain ⟨⟨ov, a⟩, b1, b2, b3, b4⟩ := hR.cellsOk p hp
    exact ⟨⟨ov, a.sameBut hs b3⟩, b1, b2, b3, b4⟩

theorem R.storeC (hR : R C zs σ z s) {x : Str} {v : V} {val : Value} {c : Addr} {h' : Heap} (hl : C.env.kindOf x = some .cell) (hc : C.env.cells.lookup x = some c) (hro : x ∉ C.ro) (r : Rep z v val)
    (hn : h'.IsCell c (some val)) (hs : Heap.SameBut c s.heap h') : R C zs ⟨setL σ.loc x v, σ.H⟩ z { s with heap := h' } := by
  obtain ⟨⟨ov, hcell⟩, k1, k2, k3, k4⟩ := hR.cellsOk (x, c) (mem_of_lookup hc)
  have k2 := k2.resolve_right hro
  have ne : ∀ b o, z b = some o → b ≠ c := fun b o e q => by subst q; rw [k1] at e; cases e
  have nes : ∀ b o, zs b = some o → b ≠ c := fun b o e q => by subst q; rw [k2] at e; cases e
  refine ⟨⟨fun b o e => (hs.2 b (ne b o e)).trans (hR.rh.hz b o e), hR.rh.hbase, fun b o e => ?_, hR.rh.disj, fun p hp => ?_, hR.rh.nodup, hR.rh.gens, hR.rh.os⟩, ?_, fun y u hy hk => ?_, fun p hp => ?_, hR.locFree, hR.fr⟩
  · obtain ⟨sl, q, w⟩ := hR.rh.hzs b o e
    exact ⟨sl, (hs.2 b (nes b o e)).trans q, w⟩
  · obtain ⟨a, b⟩ := hR.rh.hH p hp
    exact ⟨a.keep fun o ho => (hs.2 _ fun q => k4 (q ▸ List.mem_map_of_mem (f := (·.1)) hp)).trans ho, b⟩
  · obtain ⟨m, n, hm⟩ := hR.ns
    refine ⟨m, n.sameBut hs (Ne.symm k3), fun y u hy hk => ?_⟩
    rw [lookup_setL] at hy
    by_cases h : y = x
    · subst h; rw [hl] at hk; cases hk
    · rw [if_neg h] at hy; exact hm y u hy hk
  · rw [lookup_setL] at hy
    by_cases h : y = x
    · subst h; rw [if_pos rfl] at hy; cases hy; exact ⟨c, val, hc, hn, r⟩
    · rw [if_neg h] at hy
      obtain ⟨c', w, a, b, d⟩ := hR.cells y u hy hk
      refine ⟨c', w, a, b.sameBut hs fun e => h ?_, d⟩
      subst e
      exact name_of_addr C.apart (mem_of_lookup a) (mem_of_lookup hc)
  · obtain ⟨⟨ov', a⟩, b1, b2, b3, b4⟩ := hR.cellsOk p hp
    by_cases e : p.2 = c
    · exact ⟨⟨_, by rw [e]; exact hn⟩, b1, b2, b3, b4⟩
    · exact ⟨⟨ov', a.sameBut hs e⟩, b1, b2, b3, b4⟩

/-- a name that can be stored: a local one, or a cell's -/
inductive Stores (C : Cx) (x : Str) : Prop
  | loc (h : C.env.kindOf x = some .local)
  | cell (c : Addr) (h : C.env.kindOf x = some .cell) (hc : C.env.cells.lookup x = some c) (hro : x ∉ C.ro)

theorem TT.store {x : Str} {v : V} {val : Value} {P : Z → Unit → St → Prop} (k : Stores C x) (r : Rep z₀ v val) (h : ∀ z, Z.le z₀ z → P z () ⟨setL σ.loc x v, σ.H⟩) : TT C z₀ (bindName C.env x val) P X σ := by
  intro zs z s hz hR
  refine wpAny_bindName ?_
  cases k with
  | loc hl =>
    obtain ⟨m, hn, hm⟩ := hR.ns
    refine wpAny_storeName_local hl hn (fun h' hn' hs' => ⟨z, _, Z.le_refl _, hR.storeL hm hl (r.mono hz) hn' hs', h z hz⟩) ?_
    rw [C.hk]; rfl
  | cell c hl hc hro =>
    obtain ⟨⟨ov, hcell⟩, _⟩ := hR.cellsOk (x, c) (mem_of_lookup hc)
    exact wpAny_storeName_cell C.hk hl hc hcell fun h' hn' hs' => ⟨z, _, Z.le_refl _, hR.storeC hl hc hro (r.mono hz) hn' hs', h z hz⟩

/-! statements -/
theorem TSs.nil {Q : Fl → St → Prop} (h : Q .next σ) : TSs C [] Q X σ := fun z₀ => TT.pure fun z _ => ⟨.next, .next, h⟩
noncomputable abbrev Nx (C : Cx) (r : List Stmt) (Q : Fl → St → Prop) (X : XP) : Fl → St → Prop := fun f σ1 => match f with
  | .next => TSs C r Q X σ1
  | f => Q f σ1
theorem TSs.cons {st : Stmt} {r : List Stmt} {Q : Fl → St → Prop} (h : TS C st (Nx C r Q X) X σ) : TSs C (st :: r) Q X σ := by
  intro z₀
  rw [execs_cons]
  refine TT.bind (TT.mono (h z₀) ?_)
  rintro z f σ1 l ⟨fl, rf, h1⟩
  cases rf with
  | next => exact h1 z
  | brk => exact TT.pure fun z' l' => ⟨.brk, .brk, h1⟩
  | cont => exact TT.pure fun z' l' => ⟨.cont, .cont, h1⟩
  | ret rv => exact TT.pure fun z' l' => ⟨.ret _, .ret (rv.mono l'), h1⟩
theorem TS.ret {e : Expr} {p : Pos} {Q : Fl → St → Prop} (h : TE C e (fun v σ1 => Q (.ret v) σ1) X σ) : TS C (.Return (some e) p) Q X σ := fun z₀ => by
  rw [exec_Return_some]
  refine TT.at_ (TT.bind (TT.mono (h z₀) ?_))
  rintro z x σ1 l ⟨v, r, h1⟩
  exact TT.pure fun z' l' => ⟨.ret v, .ret (r.mono l'), h1⟩
theorem TS.if_ {t : Expr} {b o : List Stmt} {p : Pos} {Q : Fl → St → Prop} (h : TB C t (fun c σ1 => if c then TSs C b Q X σ1 else TSs C o Q X σ1) X σ) : TS C (.If t b o p) Q X σ := fun z₀ => by
  rw [exec_If]
  refine TT.at_ (TT.bind (TT.mono (h z₀) ?_))
  rintro z c σ1 l h1
  cases c
  · exact h1 z
  · exact h1 z
theorem TS.assign {x : Str} {p p' : Pos} {e : Expr} {Q : Fl → St → Prop} (k : Stores C x) (h : TE C e (fun v σ1 => Q .next ⟨setL σ1.loc x v, σ1.H⟩) X σ)
    (hs : swapsWith e (some (.Name x p')) p.line C.env = pure false := by rfl) : TS C (.Assign [.Name x p'] e p) Q X σ := fun z₀ => by
  rw [exec_Assign_Name C.env x p' e p hs]
  refine TT.at_ (TT.bind (TT.mono (h z₀) ?_))
  rintro z val σ1 l ⟨v, r, h1⟩
  exact TT.at_ (TT.bind (TT.store k r fun z' l' => TT.pure fun z'' _ => ⟨.next, .next, h1⟩))
theorem TSs.weaken {st : List Stmt} {Q : Fl → St → Prop} {σ' : St} (h1 : ∀ x v, σ'.loc.lookup x = some v → σ.loc.lookup x = some v) (h2 : σ'.H.Sublist σ.H) (h : TSs C st Q X σ') : TSs C st Q X σ := fun z₀ => (h z₀).weaken h1 h2
theorem TE.mono {e : Expr} {Q Q' : V → St → Prop} (h : TE C e Q X σ) (k : ∀ f σ, Q f σ → Q' f σ) : TE C e Q' X σ := fun z₀ => (h z₀).mono fun z f σ' _ ⟨fl, r, q⟩ => ⟨fl, r, k _ _ q⟩
end
end PL

end
section
open PySem PySem.Calls PyProof.Rows
set_option Elab.async false
set_option linter.unusedVariables false
set_option linter.unusedSimpArgs false
namespace PL

section
variable {C : Cx} {X : XP} {σ : St} {Q : V → St → Prop} {i j : Int} {b c : Bool}

theorem Bin.add_int (h : Q (.int (i + j)) σ) : Bin C .Add (.int i) (.int j) Q X σ := by
  intro z₀ x0 x1 w0 w1 zs z s hz hR
  have w0q := w0.e; clear w0; obtain ⟨_, rfl⟩ := w0q
  have w1q := w1.e; clear w1; obtain ⟨_, rfl⟩ := w1q
  exact P.add_int (PVal.toks hR (.int _ _) h)
theorem Bin.mod_int (hj : j ≠ 0) (h : Q (.int (i.fmod j)) σ) : Bin C .Mod (.int i) (.int j) Q X σ := by
  intro z₀ x0 x1 w0 w1 zs z s hz hR
  have w0q := w0.e; clear w0; obtain ⟨_, rfl⟩ := w0q
  have w1q := w1.e; clear w1; obtain ⟨_, rfl⟩ := w1q
  exact mod_int' hj (PVal.toks hR (.int _ _) h)
theorem Un.neg_int (h : Q (.int (-i)) σ) : Un C .USub (.int i) Q X σ := by
  intro z₀ x0 w0 zs z s hz hR
  have w0q := w0.e; clear w0; obtain ⟨_, rfl⟩ := w0q
  exact P.neg_int (PVal.toks hR (.int _ _) h)
theorem Cmp.eq_int (h : Q (.bool (i == j)) σ) : Cmp C .Eq (.int i) (.int j) Q X σ := by
  intro z₀ x0 x1 w0 w1 zs z s hz hR
  have w0q := w0.e; clear w0; obtain ⟨_, rfl⟩ := w0q
  have w1q := w1.e; clear w1; obtain ⟨_, rfl⟩ := w1q
  exact P.eq_int (PVal.same hR (.bool _) h)
theorem Cmp.lt_int (h : Q (.bool (decide (i < j))) σ) : Cmp C .Lt (.int i) (.int j) Q X σ := by
  intro z₀ x0 x1 w0 w1 zs z s hz hR
  have w0q := w0.e; clear w0; obtain ⟨_, rfl⟩ := w0q
  have w1q := w1.e; clear w1; obtain ⟨_, rfl⟩ := w1q
  exact P.lt_int (PVal.same hR (.bool _) h)
theorem ofNat_inj {a b : Nat} (ha : a < 256) (hb : b < 256) (h : UInt8.ofNat a = UInt8.ofNat b) : a = b := by
  have := congrArg UInt8.toNat h
  simp only [UInt8.toNat_ofNat'] at this
  (clear h; (first | lia | omega))
theorem map_ofNat_inj : ∀ {l m : List Nat}, (∀ c ∈ l, c < 256) → (∀ c ∈ m, c < 256) → l.map UInt8.ofNat = m.map UInt8.ofNat → l = m
  | [], [], _, _, _ => rfl
  | [], _ :: _, _, _, h => by simp at h
  | _ :: _, [], _, _, h => by simp at h
  | a :: l, b :: m, hl, hm, h => by
    rw [List.map_cons, List.map_cons, List.cons.injEq] at h
    rw [ofNat_inj (hl a List.mem_cons_self) (hm b List.mem_cons_self) h.1, map_ofNat_inj (fun c hc => hl c (List.mem_cons_of_mem _ hc)) (fun c hc => hm c (List.mem_cons_of_mem _ hc)) h.2]
theorem beq_ofNat {l m : List Nat} (hl : ∀ c ∈ l, c < 256) (hm : ∀ c ∈ m, c < 256) : ((l.map UInt8.ofNat) == (m.map UInt8.ofNat)) = (l == m) := by
  rw [Bool.eq_iff_iff, beq_iff_eq, beq_iff_eq]
  exact ⟨map_ofNat_inj hl hm, fun e => by rw [e]⟩

variable {o : Bool} {l m : List Nat}
theorem Cmp.ne_txt (h : Q (.bool (l != m)) σ) : Cmp C .NotEq (.txt o l) (.txt o m) Q X σ := by
  intro z₀ x y rx ry zs z s hz hR
  have rxq := rx.txt_; clear rx; rcases rxq with ⟨rfl, t, rfl⟩ | ⟨rfl, t, rfl, hl⟩
  · have ryq := ry.e; clear ry; obtain ⟨u, rfl⟩ := ryq
    exact P.ne_str (PVal.same hR (.bool _) h)
  · have ryq := ry.e; clear ry; obtain ⟨u, rfl, hm⟩ := ryq
    refine PySem.W.ne_bytes ?_
    rw [List.toList_toArray, List.toList_toArray, bne, beq_ofNat hl hm]
    exact PVal.same hR (.bool _) h

/-! truth -/
variable {QB : Bool → St → Prop}
theorem Tru.bool (h : QB b σ) : Tru C (.bool b) QB X σ := by
  intro z₀ x0 w0 zs z s hz hR
  have w0q := w0.e; clear w0; obtain ⟨_, rfl⟩ := w0q
  exact wpAny_truthy_bool ⟨z, σ, Z.le_refl _, hR, h⟩
theorem rep_tupO {z : Z} {vs : List V} {x : Value} (r : Rep z (.tup vs) x) {zs : Z} {s : Shared} (hR : R C zs σ z s) : ∃ a items n, x = .ref a ∧ s.heap.get? a = some (tupO items n) ∧ RepL z vs items := by
  have rq := r.e; clear r; obtain ⟨_, _, _, rfl, e, hr⟩ := rq
  exact ⟨_, _, _, rfl, hR.rh.hz _ _ e, hr⟩
theorem rep_isTup {z : Z} {vs : List V} {x : Value} (r : Rep z (.tup vs) x) {zs : Z} {s : Shared} (hR : R C zs σ z s) : ∃ a items, x = .ref a ∧ IsTup s.heap a items.toArray ∧ RepL z vs items :=
  let ⟨a, items, n, e, h, q⟩ := rep_tupO r hR; ⟨a, items, e, ⟨_, h, rfl, _, rfl⟩, q⟩

/-- a list that can be read: frozen, or on the ledger -/
inductive IsL (σ : St) : V → List V → Prop
  | fz (vs : List V) : IsL σ (.lst vs) vs
  | mt {a : Addr} {vs : List V} (h : (a, AO.list vs) ∈ σ.H) : IsL σ (.ref a) vs
theorem IsL.obj {v : V} {vs : List V} (k : IsL σ v vs) {z₀ z zs : Z} {s : Shared} {x : Value} (r : Rep z₀ v x) (hz : Z.le z₀ z) (hR : R C zs σ z s) :
    ∃ a items n, x = .ref a ∧ s.heap.get? a = some (lstO items n) ∧ RepL z vs items := by
  cases k with
  | fz =>
    have rq := r.e; clear r; obtain ⟨_, _, _, rfl, e, hr⟩ := rq
    exact ⟨_, _, _, rfl, hR.rh.hz _ _ (hz _ _ e), hr.mono hz⟩
  | mt hm =>
    have rq := r.e; clear r; obtain ⟨_, rfl⟩ := rq
    obtain ⟨⟨items, n, p, q⟩, _⟩ := hR.rh.hH _ hm
    exact ⟨_, items, n, rfl, p, q⟩
theorem IsL.at {v : V} {vs : List V} (k : IsL σ v vs) {z₀ z zs : Z} {s : Shared} {x : Value} (r : Rep z₀ v x) (hz : Z.le z₀ z) (hR : R C zs σ z s) :
    ∃ a items, x = .ref a ∧ s.heap.IsList a (items : List Value).toArray ∧ RepL z vs items :=
  let ⟨a, items, n, e, h, q⟩ := k.obj r hz hR; ⟨a, items, e, ⟨_, h, rfl, _, rfl⟩, q⟩

end
end PL

end
section
open PySem PySem.Calls PyProof.Rows
set_option Elab.async false
set_option linter.unusedVariables false
set_option linter.unusedSimpArgs false
namespace PL

/-! plain functions on texts -/
noncomputable def sl {α : Type} (l : List α) (lo hi : Option Int) : List α := (l.drop (lo.elim 0 (clipAt l.length))).take (hi.elim l.length (clipAt l.length) - lo.elim 0 (clipAt l.length))

/-- the place behind the last `c`, 0 where there is none -/
noncomputable def cut (c : Nat) : List Nat → Nat
  | [] => 0
  | x :: r => if cut c r ≠ 0 then cut c r + 1 else if x = c then 1 else 0
noncomputable def splitS (c : Nat) : List Nat → List (List Nat)
  | [] => [[]]
  | x :: r => if x = c then [] :: splitS c r else match splitS c r with
    | [] => [[x]]
    | p :: ps => (x :: p) :: ps
noncomputable def joinS (sep : List Nat) : List (List Nat) → List Nat
  | [] => []
  | [p] => p
  | p :: q :: r => p ++ sep ++ joinS sep (q :: r)
theorem cut_spec (c : Nat) : ∀ l : List Nat, (cut c l = 0 ∧ ∀ i : Nat, l[i]? ≠ some c) ∨ ∃ k : Nat, cut c l = k + 1 ∧ l[k]? = some c ∧ ∀ j, k < j → l[j]? ≠ some c
  | [] => .inl ⟨rfl, fun i => by simp⟩
  | x :: r => by
    unfold cut
    rcases cut_spec c r with ⟨h0, h⟩ | ⟨k, h0, h1, h2⟩
    · rw [if_neg (by simp [h0])]
      by_cases hx : x = c
      · rw [if_pos hx]
        refine .inr ⟨0, rfl, by simp [hx], fun j hj => ?_⟩
        cases j with
        | zero => (clear hx h h0; (first | lia | omega))
        | succ j => simpa using h j
      · rw [if_neg hx]
        refine .inl ⟨rfl, fun i => ?_⟩
        cases i with
        | zero => simpa using hx
        | succ j => simpa using h j
    · rw [if_pos (by (clear h2 h1 x; (first | lia | omega))), h0]
      refine .inr ⟨k + 1, rfl, by simpa using h1, fun j hj => ?_⟩
      cases j with
      | zero => (clear h2 h1 h0; (first | lia | omega))
      | succ j => simpa using h2 j (by (clear h2 h1 h0 x r c; (first | lia | omega)))
theorem splitS_ne (c : Nat) : ∀ l, splitS c l ≠ []
  | [] => by simp [splitS]
  | x :: r => by
    unfold splitS
    split
    · simp
    · split <;> simp
/-- the parts are told by what they are -/
theorem splitS_join (c : Nat) : ∀ (ps : List (List Nat)), ps ≠ [] → (∀ p ∈ ps, c ∉ p) → splitS c (joinS [c] ps) = ps
  | [], h, _ => absurd rfl h
  | [p], hn, h => by
    have hp := h p (by simp)
    show splitS c p = [p]
    clear h hn
    induction p with
    | nil => rfl
    | cons x r ih =>
      rw [List.mem_cons, not_or] at hp
      unfold splitS
      rw [if_neg (Ne.symm hp.1), ih hp.2]
  | p :: q :: r, hn, h => by
    have ih := splitS_join c (q :: r) (by simp) fun x hx => h x (List.mem_cons_of_mem _ hx)
    have hp := h p (by simp)
    show splitS c (p ++ [c] ++ joinS [c] (q :: r)) = _
    rw [List.append_assoc]
    clear h hn
    induction p with
    | nil => simp only [List.nil_append, List.cons_append]; unfold splitS; rw [if_pos rfl, ih]
    | cons x s ih2 =>
      rw [List.mem_cons, not_or] at hp
      rw [List.cons_append]
      unfold splitS
      rw [if_neg (Ne.symm hp.1), ih2 hp.2]

section
open Builtin Builtin.Str
theorem str_join (sep : List Nat) : ∀ ps : List (List Nat), Str.join (strOf sep) (ps.map strOf) = strOf (joinS sep ps)
  | [] => rfl
  | [p] => rfl
  | p :: q :: r => by
    have ih := str_join sep (q :: r)
    show strOf p ++ strOf sep ++ Str.join (strOf sep) ((q :: r).map strOf) = _
    rw [ih]
    apply Str.ext'
    simp [Str.cps_append, strOf, joinS]
theorem strOf_list (x : Str) : strOf x.cps.toList = x := by simp [strOf]
theorem str_split (l : List Nat) (c : Nat) : Txt.split ⟨l.toArray⟩ ⟨#[c]⟩ = (splitS c l).map strOf := by
  let ps := (Txt.split ⟨l.toArray⟩ ⟨#[c]⟩).map fun p => p.cps.toList
  have hps : ps.map strOf = Txt.split ⟨l.toArray⟩ ⟨#[c]⟩ := by
    simp only [ps, List.map_map]
    conv => rhs; rw [← List.map_id (Txt.split ⟨l.toArray⟩ ⟨#[c]⟩)]
    apply List.map_congr_left
    intro p _
    exact strOf_list p
  have hj := StrLaws.join_split ⟨l.toArray⟩ ⟨#[c]⟩
  rw [← hps] at hj
  have hj2 : joinS [c] ps = l := by
    have := str_join [c] ps
    rw [show strOf [c] = ⟨#[c]⟩ from rfl, hj] at this
    have := congrArg (fun s => s.cps.toList) this
    simpa [strOf] using this.symm
  have hfree : ∀ p ∈ ps, c ∉ p := by
    intro p hp
    obtain ⟨q, hq, rfl⟩ := List.mem_map.mp hp
    exact StrLaws.split_free ⟨l.toArray⟩ c q hq
  by_cases hne : ps = []
  · exfalso
    have h0 : Txt.split ⟨l.toArray⟩ ⟨#[c]⟩ = [] := by
      have := congrArg List.length hne
      simpa [ps] using this
    unfold Txt.split at h0
    split at h0
    · cases h0
    · split at h0
      · cases h0
      · rw [StrLaws.partsBetween_eq] at h0
        obtain ⟨p, r, e⟩ := StrLaws.partsFrom_ne ⟨l.toArray⟩ (⟨#[c]⟩ : Str).length 0 (occurrences ⟨l.toArray⟩ ⟨#[c]⟩ 0 (⟨l.toArray⟩ : Str).length ((⟨l.toArray⟩ : Str).length + 1))
        rw [e] at h0
        cases h0
  · rw [← hps, ← splitS_join c ps hne hfree, hj2]
end
end PL

end
section
open PySem PySem.Calls PyProof.Rows
set_option Elab.async false
set_option linter.unusedVariables false
set_option linter.unusedSimpArgs false
namespace PL

/-! subscripts -/
section
variable {C : Cx} {X : XP} {σ : St} {Q : V → St → Prop}

noncomputable def Item (C : Cx) (o i : V) (Q : V → St → Prop) (X : XP) (σ : St) : Prop := ∀ value slice z₀ x y, Rep z₀ o x → Rep z₀ i y → TT C z₀ (subscriptTail value slice x y) (PVal Q) X σ
theorem subscripted_ops (slice : Expr) (x y : Value) : ∃ ops, subscripted slice false x y = operate ops (getItem x y) := by
  cases slice with
  | Slice l u s p => cases s <;> exact ⟨_, rfl⟩
  | _ => exact ⟨_, rfl⟩
theorem TE.sub {value slice : Expr} {pos : Pos} (h : TE C value (fun o σ1 => TE C slice (fun i σ2 => Item C o i Q X σ2) X σ1) X σ) : TE C (.Subscript value slice pos) Q X σ := by
  intro z₀
  have e : eval (.Subscript value slice pos) C.env = (do let o ← eval value C.env; let i ← holding [o] (eval slice C.env); standAt pos; subscriptTail value slice o i) := by rw [eval_Subscript]; rfl
  rw [e]
  refine TT.bind (TT.mono (h z₀) ?_)
  rintro z a σ1 l1 ⟨va, ra, h1⟩
  refine TT.bind (TT.holding (TT.mono (h1 z) ?_))
  rintro z' b σ2 l2 ⟨vb, rb, h2⟩
  exact TT.at_ (h2 value slice z' a b (ra.mono l2) rb)

theorem tail_of {M : Model} {A : Around} {E : Value → Shared → Prop} {s : Shared} {value slice : Expr} {o i : Value} {T id : String} {Q : Value → Shared → Prop} (hT : s.TypeIs o T)
    (hl : typeLookup (.type T) "__getitem__" = pure (some (.builtin id))) {prog : Program} {w : World} (hM : M = model prog w) (hg : wpAny M A (getItem o i) Q E s) : wpAny M A (subscriptTail value slice o i) Q E s := by
  obtain ⟨ops, hs⟩ := subscripted_ops slice o i
  subst hM
  exact tail_any hT hl hg hs

theorem seqIndex_ok {k : Int} {n j : Nat} (h : (if k < 0 then k + n else k) = (j : Int)) (hj : j < n) : seqIndex? k n = some j := by
  unfold seqIndex?
  by_cases hk : k < 0
  · simp only [hk, if_true] at h ⊢
    rw [h]; simp [hj]
  · simp only [hk, if_false] at h ⊢
    rw [h]; simp [hj]

/-- which place an index tells -/
noncomputable def At (k : Int) (n j : Nat) : Prop := (if k < 0 then k + n else k) = (j : Int) ∧ j < n

theorem Item.list {v : V} {vs : List V} {k : Int} {j : Nat} {u : V} (hl : IsL σ v vs) (hn : vs.length ≤ 16777216) (ha : At k vs.length j) (hu : vs[j]? = some u) (h : Q u σ) : Item C v (.int k) Q X σ := by
  intro value slice z₀ x x0 rx w0 zs z s hz hR
  have w0q := w0.e; clear w0; obtain ⟨_, rfl⟩ := w0q
  obtain ⟨a, items, rfl, p, q⟩ := hl.at rx hz hR
  obtain ⟨xv, hx, r⟩ := q.get hu
  obtain ⟨h1, h2⟩ := ha
  have hlen := q.length
  refine tail_of p.typeIs slot_list_getitem.lookup rfl ?_
  by_cases hk : k < 0
  · rw [if_pos hk] at h1
    refine wpAny_getItem_list_neg p hk (by rw [List.size_toArray, hlen]; (clear hk hlen h2 r hx xv q p rx a hR hz s z zs z₀ slice value h hu hn hl u v items; (first | lia | omega))) (by (clear hk h2 r hx xv q p rx a hR hz s z zs z₀ slice value h hu hl u v hlen items; (first | lia | omega))) (x := xv) ?_ (PVal.same hR r h)
    rw [List.size_toArray, hlen, h1]; simpa using hx
  · rw [if_neg hk] at h1
    refine wpAny_getItem_list p (by (clear hk hlen h2 r hx xv q p rx a hR hz s z zs z₀ slice value h hu hn hl u v items vs; (first | lia | omega))) (by (clear hk r hx xv q p rx a hR hz s z zs z₀ slice value h hu hl u v hlen items; (first | lia | omega))) (x := xv) ?_ (PVal.same hR r h)
    rw [h1]; simpa using hx
theorem Item.tup {vs : List V} {k : Int} {j : Nat} {u : V} (hn : vs.length ≤ 16777216) (ha : At k vs.length j) (hu : vs[j]? = some u) (h : Q u σ) : Item C (.tup vs) (.int k) Q X σ := by
  intro value slice z₀ x x0 rx w0 zs z s hz hR
  have w0q := w0.e; clear w0; obtain ⟨_, rfl⟩ := w0q
  obtain ⟨a, items, rfl, p, q⟩ := rep_isTup (rx.mono hz) hR
  obtain ⟨xv, hx, r⟩ := q.get hu
  obtain ⟨h1, h2⟩ := ha
  have hlen := q.length
  have hT : s.TypeIs (.ref a) "tuple" := let ⟨o, ho, hc, _⟩ := p; ⟨o, ho, hc⟩
  refine tail_of hT PySem.F.slot_tuple_getitem.lookup rfl ?_
  refine getItem_tuple p (j := j) (x := xv) ?_ ?_ ?_ (by simpa using hx) (PVal.same hR r h)
  · by_cases hk : k < 0
    · rw [if_pos hk] at h1; (clear hk hT h2 r hx xv q p rx a hR hz s z zs z₀ slice value h hu u hlen items; (first | lia | omega))
    · rw [if_neg hk] at h1; (clear hk hT hlen h2 r hx xv q p rx a hR hz s z zs z₀ slice value h hu hn u items vs; (first | lia | omega))
  · by_cases hk : k < 0
    · (clear hT hlen h2 h1 r hx xv q p rx a hR hz s z zs z₀ slice value h hu hn u items j vs; (first | lia | omega))
    · rw [if_neg hk] at h1; (clear hk hT r hx xv q p rx a hR hz s z zs z₀ slice value h hu u hlen items; (first | lia | omega))
  · rw [List.size_toArray, hlen]; exact seqIndex_ok h1 h2
/-! slices -/
noncomputable def Slc (C : Cx) (o : V) (lo hi st : Option Int) (Q : V → St → Prop) (X : XP) (σ : St) : Prop :=
  ∀ value slice zs z s x a l u w, R C zs σ z s → Rep z o x → s.heap.IsSliceOf a l u w → IsPart l lo → IsPart u hi → IsPart w st →
    wpAny C.M C.A (subscriptTail value slice x (.ref a)) (Post C zs z (PVal Q)) (PX C zs z X) s
/-- a part of a slice -/
noncomputable def TOpt (C : Cx) (e : Option Expr) (Q : Option Int → St → Prop) (X : XP) (σ : St) : Prop :=
  ∀ z₀, TT C z₀ (evalPart e C.env) (fun z x σ' => ∃ i, IsPart x i ∧ Q i σ') X σ
theorem TOpt.none {Q : Option Int → St → Prop} (h : Q none σ) : TOpt C none Q X σ := fun z₀ => TT.eq (evalPart_none _) fun z _ => ⟨_, .none, h⟩
theorem TOpt.some {e : Expr} {Q : Option Int → St → Prop} (h : TE C e (fun v σ' => ∃ i, v = .int i ∧ Q (some i) σ') X σ) : TOpt C (some e) Q X σ := by
  intro z₀
  show TT C z₀ (eval e C.env) _ X σ
  refine TT.mono (h z₀) ?_
  rintro z x σ' l ⟨v, r, i, rfl, q⟩
  have rq := r.e; clear r; obtain ⟨t, rfl⟩ := rq
  exact ⟨_, .int i t, q⟩
theorem TE.subsl {value : Expr} {lo hi st : Option Expr} {p pos : Pos}
    (h : TE C value (fun o σ1 => TOpt C lo (fun a σ2 => TOpt C hi (fun b σ3 => TOpt C st (fun c σ4 => Slc C o a b c Q X σ4) X σ3) X σ2) X σ1) X σ) : TE C (.Subscript value (.Slice lo hi st p) pos) Q X σ := by
  intro z₀ zs z s hz hR
  refine Subscript_ (wpAny_mono (h z₀ zs z s hz hR) ?_ fun _ _ x => x)
  rintro o s1 ⟨z1, σ1, l1, R1, v, ro, h1⟩
  refine wpAny_Slice (wpAny_mono (h1 z1 zs z1 s1 (Z.le_refl _) R1) ?_ fun _ _ x => PX.le l1 x)
  rintro lv s2 ⟨z2, σ2, l2, R2, a, pa, h2⟩
  refine wpAny_mono (h2 z2 zs z2 s2 (Z.le_refl _) R2) ?_ fun _ _ x => PX.le (Z.le_trans l1 l2) x
  rintro uv s3 ⟨z3, σ3, l3, R3, b, pb, h3⟩
  refine wpAny_mono (h3 z3 zs z3 s3 (Z.le_refl _) R3) ?_ fun _ _ x => PX.le (Z.le_trans (Z.le_trans l1 l2) l3) x
  rintro wv s4 ⟨z4, σ4, l4, R4, c, pc, h4⟩
  have ll := Z.le_trans (Z.le_trans (Z.le_trans l1 l2) l3) l4
  refine wpAny_mono (h4 value (.Slice lo hi st p) zs z4 _ o s4.heap.objs.size lv uv wv (R4.push' _) (ro.mono (Z.le_trans (Z.le_trans l2 l3) l4)) (Heap.IsSliceOf.new ..) pa pb pc) ?_ fun _ _ x => PX.le ll x
  rintro r s5 ⟨z5, σ5, l5, R5, q⟩
  exact ⟨z5, σ5, Z.le_trans ll l5, R5, q⟩

/-- the places of a slice with a step -/
noncomputable def pick {α : Type} (l : List α) (lo hi st : Option Int) : List α :=
  (sliceRange (sliceBounds lo hi st l.length).1 (sliceBounds lo hi st l.length).2.1 (sliceBounds lo hi st l.length).2.2).filterMap (l[·]?)
theorem pick_plain {α : Type} (l : List α) (lo hi : Option Int) : pick l lo hi none = sl l lo hi := by
  unfold pick sl
  rw [sliceBounds_plain]
  have := sliceRange_one (lo.elim 0 (clipAt l.length)) (hi.elim l.length (clipAt l.length))
  simp only [this]
  have h := pick_run l.toArray (lo.elim 0 (clipAt l.length)) (hi.elim l.length (clipAt l.length) - lo.elim 0 (clipAt l.length))
  simpa using h
theorem RepL.pick {z : Z} {vs : List V} {xs : List Value} (r : RepL z vs xs) : ∀ idx : List Nat, RepL z (idx.filterMap (vs[·]?)) (idx.filterMap (xs[·]?))
  | [] => .nil
  | i :: idx => by
    have ih := r.pick idx
    cases h : vs[i]? with
    | none =>
      have hx : xs[i]? = none := by
        rw [List.getElem?_eq_none_iff] at h ⊢
        rw [r.length]; exact h
      simpa [List.filterMap_cons, h, hx] using ih
    | some v =>
      obtain ⟨x, hx, rx⟩ := r.get h
      simpa [List.filterMap_cons, h, hx] using RepL.cons rx ih
theorem Slc.list {v : V} {vs : List V} {lo hi st : Option Int} (hl : IsL σ v vs) (hn : vs.length ≤ 16777216) (h0 : st ≠ some 0) (h : Q (.lst (pick vs lo hi st)) σ) : Slc C v lo hi st Q X σ := by
  intro value slice zs z s x a l u w hR rx hs pl pu pw
  obtain ⟨b, items, rfl, p, q⟩ := hl.at rx (Z.le_refl _) hR
  refine tail_of p.typeIs slot_list_getitem.lookup rfl ?_
  have hlen := q.length
  refine wpAny_getItem_list_slice p hs pl pu pw h0 ?_ (by rw [List.size_toArray, hlen]; exact size_ok hn)
  obtain ⟨R', le⟩ := hR.frozen { cls := .type "list", data := .seq (slicePick items.toArray lo hi st) } s.toks
  have hq := q.pick (sliceRange (sliceBounds lo hi st vs.length).1 (sliceBounds lo hi st vs.length).2.1 (sliceBounds lo hi st vs.length).2.2)
  refine ⟨_, _, le, R', _, .lst (n := 0) (items := (sliceRange (sliceBounds lo hi st vs.length).1 (sliceBounds lo hi st vs.length).2.1 (sliceBounds lo hi st vs.length).2.2).filterMap (items[·]?)) ?_ (hq.mono le), h⟩
  rw [put_self]
  unfold slicePick
  rw [List.size_toArray, hlen]
  simp

end
end PL

end
section
open PySem PySem.Calls PyProof.Rows
set_option Elab.async false
set_option linter.unusedVariables false
set_option linter.unusedSimpArgs false
namespace PL

/-! calls -/
section
variable {C : Cx} {X : XP} {σ : St} {Q : V → St → Prop}

inductive Kept (g : Gd) : Value → Prop
  | bi (id : String) : Kept g (.builtin id)
  | ty (n : String) : Kept g (.type n)
  | fn {a : Addr} {o : Obj} {fd : FuncData} (h : g.base.get? a = some o) (hd : o.data = .func fd) : Kept g (.ref a)

noncomputable def CallV (C : Cx) (f : Value) (vs : List V) (Q : V → St → Prop) (X : XP) (σ : St) : Prop := ∀ z₀ xs, RepL z₀ vs xs → TT C z₀ (call f xs []) (PVal Q) X σ

theorem evalArgs_of {M : Model} {A : Around} {E : Value → Shared → Prop} {s : Shared} {f : Value} {args : List (Bool × Sem Value)} {Q : Args → Shared → Prop} (hp : args.any (·.1) = false)
    (h : wpAny M A (spliced args) (fun vs s' => Q ⟨vs, []⟩ s') E s) : wpAny M A (evalArgs f true args []) Q E s := by
  have e : evalArgs f true args [] = (do
      let pos ← spliced args
      holding pos (do
        let kw := (([] : List (Option Str × Sem Value)).filterMap (·.1)).zip (← evalAll [])
        return ⟨← pure pos, kw⟩)) := by
    unfold evalArgs
    cases args with
    | nil => simp
    | cons a r =>
      obtain ⟨b, x⟩ := a
      cases b with
      | true => simp at hp
      | false => simp
  rw [e]
  refine wpAny_bind (wpAny_mono h (fun vs s' h' => ?_) fun _ _ x => x)
  exact wpAny_holding (wpAny_bind (wpAny_pure (wpAny_bind (wpAny_pure (wpAny_pure h')))))

theorem TT.callWith {z₀ : Z} {pos : Pos} {f : Value} {first : List Value} {args : List (Bool × Sem Value)} {P : Z → Value → St → Prop} (kf : Kept C.g f) (hp : args.any (·.1) = false)
    (h : TT C z₀ (spliced args) (fun z xs σ1 => TT C z (call f (first ++ xs) []) P X σ1) X σ) : TT C z₀ (callWith pos f first args []) P X σ := by
  intro zs z s hz hR
  have go : wpAny C.M C.A (spliced args) (fun xs s' => wpAny C.M C.A (call f (first ++ xs) []) (Post C zs z P) (PX C zs z X) s' ∧ ∀ b o, C.g.base.get? b = some o → s'.heap.get? b = some o) (PX C zs z X) s := by
    refine wpAny_mono (h zs z s hz hR) ?_ fun _ _ x => x
    rintro xs s1 ⟨z1, σ1, l1, R1, k⟩
    refine ⟨wpAny_mono (k zs z1 s1 (Z.le_refl _) R1) ?_ fun _ _ x => PX.le l1 x, R1.rh.base⟩
    rintro a s2 ⟨z2, σ2, l2, R2, q⟩
    exact ⟨z2, σ2, Z.le_trans l1 l2, R2, q⟩
  cases kf with
  | bi id => exact callWith_builtin hp (evalArgs_of hp (wpAny_mono go (fun _ _ x => x.1) fun _ _ x => x))
  | ty n => exact PyProof.Rows.callWith_type hp (evalArgs_of hp (wpAny_mono go (fun _ _ x => x.1) fun _ _ x => x))
  | fn hb hd => exact callWith_function (evalArgs_of hp (wpAny_mono go (fun _ _ x => ⟨⟨x.2 _ _ hb, hd⟩, x.1⟩) fun _ _ x => x))

theorem TE.call {func : Expr} {args : List Expr} {pos : Pos} (h : TE C func (fun fv σ1 => ∃ f, fv = .con f ∧ Kept C.g f ∧ TArgs C args (fun vs σ2 => CallV C f vs Q X σ2) X σ1) X σ)
    (hp : (backTo pos (starEach args C.env)).any (·.1) = false := by rfl)
    (he : eval (.Call func args [] pos) C.env = (do callWith pos (← eval func C.env) [] (backTo pos (starEach args C.env)) []) := by rfl) : TE C (.Call func args [] pos) Q X σ := by
  intro z₀
  rw [he]
  refine TT.bind (TT.mono (h z₀) ?_)
  rintro z fx σ1 l1 ⟨_, rf, f, rfl, kf, h1⟩
  cases rf
  refine TT.callWith kf hp (TT.mono (h1 pos z) ?_)
  rintro z2 xs σ2 l2 ⟨vs, rs, h2⟩
  exact h2 z2 xs rs

/-- a built-in method of a value -/
noncomputable def Meth (C : Cx) (σ : St) (ov : V) (name : Str) (id : String) : Prop :=
  ∀ zs z s x pl (Q' : Value × List Value → Shared → Prop) E, R C zs σ z s → Rep z ov x → Q' (.builtin id, [x]) s → wpAny C.M C.A (getMethod x name pl) Q' E s
theorem TE.meth {o : Expr} {name : Str} {id : String} {apos pos : Pos} {args : List Expr} (h : TE C o (fun ov σ1 => Meth C σ1 ov name id ∧ TArgs C args (fun vs σ2 => CallV C (.builtin id) (ov :: vs) Q X σ2) X σ1) X σ)
    (hp : (backTo pos (starEach args C.env)).any (·.1) = false := by rfl) (hb : attributeBase o name C.env (eval o C.env) = eval o C.env := by rfl)
    (hf : methodCallForm (args.length + 0) (backTo pos (starEach args C.env)) [] = true := by rfl) (hl : (apos.endLine == pos.line) = true := by rfl) : TE C (.Call (.Attribute o name apos) args [] pos) Q X σ := by
  intro z₀
  have e : eval (.Call (.Attribute o name apos) args [] pos) C.env = (do
    let ov ← eval o C.env
    standAt apos.atName
    let (f, first) ← holding [ov] (getMethod ov name (do return (← importBound o C.env).getD true))
    callWith pos f first (backTo pos (starEach args C.env)) []) := by
    have e0 : eval (.Call (.Attribute o name apos) args [] pos) C.env = (do
        let ov ← attributeBase o name C.env (eval o C.env)
        standAt apos.atName
        methodCall o name apos pos C.env ov (args.length + 0) (backTo pos (starEach args C.env)) []) := rfl
    rw [e0, hb]
    unfold methodCall methodCallPos calleeOf
    rw [hf]
    simp only [hl, if_true, Bool.not_true, Bool.false_or]
    rfl
  rw [e]
  refine TT.bind (TT.mono (h z₀) ?_)
  rintro z x σ1 l1 ⟨ov, rv, hm, h1⟩
  refine TT.at_ ?_
  intro zs z' s hz' hR
  refine wpAny_bind (wpAny_holding (hm zs z' s x _ _ _ hR (rv.mono hz') ?_))
  refine TT.callWith (C := C) (z₀ := z') (σ := σ1) (X := X) (.bi id) hp (TT.mono (h1 pos z') ?_) zs z' s (Z.le_refl _) hR
  rintro z2 xs σ2 l2 ⟨vs, rs, h2⟩
  exact h2 z2 _ (.cons ((rv.mono hz').mono l2) rs)
theorem CallV.toks {f : Value} {vs : List V} (h : ∀ z₀ zs z s xs, Z.le z₀ z → R C zs σ z s → RepL z vs xs → wpAny C.M C.A (call f xs []) (Post C zs z (PVal Q)) (PX C zs z X) s) : CallV C f vs Q X σ :=
  fun z₀ xs r zs z s hz hR => h z₀ zs z s xs hz hR (r.mono hz)
end

/-! facts of the methods of bytes -/
namespace BF
open PySem.W.FB
theorem slot_split : Slot "bytes" "split" "bytes.split" :=
  .of (owner := "bytes") (n := "split") (by rw [typeLookup_type, builtinLookup_eq_fast]; kernel_rfl) (by decide +kernel) (by decide +kernel) (by decide +kernel)
    (by first | exact .inl (by decide +kernel) | exact .inr (by decide +kernel)) (by rw [isSubtype_type]; kernel_rfl)
theorem type_split : typeOf (.builtin "bytes.split") = pure (.type "method_descriptor") := by show builtinType _ = _; rw [builtinType_eq_fast]; kernel_rfl
theorem entry_split : entryFor table "bytes.split" = some Builtin.«bytes.split» := entryFor_of_tree (by kernel_rfl)
theorem args_split (a b : Value) : argsOk "bytes.split" ⟨[a, b], []⟩ := by
  unfold argsOk; rw [signature?_of (id := "bytes.split") (n := ['t', 'i', 'l', 'p', 's']) (o := ['s', 'e', 't', 'y', 'b']) (by kernel_rfl) owner_bytes]; kernel_rfl
end BF

section
variable {C : Cx} {σ : St}
theorem Meth.str {l : List Nat} {name : Str} {id : String} (slot : Slot "str" name id) (ty : typeOf (.builtin id) = pure (.type "method_descriptor")) : Meth C σ (.txt false l) name id := by
  intro zs z s x pl Q' E hR r h
  have rq := r.e; clear r; obtain ⟨t, rfl⟩ := rq
  with_reducible exact GM.of (.str _ t) (typeIs_str _ _ _) slot ty GM.noRef h
theorem Meth.bytes {l : List Nat} {name : Str} {id : String} (slot : Slot "bytes" name id) (ty : typeOf (.builtin id) = pure (.type "method_descriptor")) : Meth C σ (.txt true l) name id := by
  intro zs z s x pl Q' E hR r h
  have rq := r.e; clear r; obtain ⟨t, rfl, hl⟩ := rq
  with_reducible exact PySem.W.KBd.method_of (.bytes _ t) (PySem.W.typeIs_bytes _ _ _) slot ty PySem.W.KBd.noRef h
theorem Meth.list {v : V} {vs : List V} (k : IsL σ v vs) {name : Str} {id : String} (slot : Slot "list" name id) (ty : typeOf (.builtin id) = pure (.type "method_descriptor")) : Meth C σ v name id := by
  intro zs z s x pl Q' E hR r h
  obtain ⟨a, items, n, rfl, p, q⟩ := k.obj r (Z.le_refl _) hR
  exact getMethod_builtin (T := "list") ⟨_, p, rfl⟩ PySem.F.plainAttrs_list slot ty (fun b e => by cases e; exact ⟨_, p, rfl⟩) h
end
end PL

end
section
open PySem PySem.Calls PyProof.Rows
set_option Elab.async false
set_option linter.unusedVariables false
set_option linter.unusedSimpArgs false
namespace PL

/-! bytes: what the model's searches give on a single sign -/
section
open Builtin
theorem extract_one {b : List UInt8} {i : Nat} {c : UInt8} : (b.toArray.extract i (i + (#[c] : Array UInt8).size) == #[c]) = true ↔ b[i]? = some c := by
  have e : b.toArray.extract i (i + (#[c] : Array UInt8).size) = ((b.drop i).take 1).toArray := by
    simp [List.extract_toArray, List.extract_eq_take_drop]
  rw [e]
  constructor
  · intro h
    have h2 := eq_of_beq h
    have h3 : (b.drop i).take 1 = [c] := by simpa using congrArg Array.toList h2
    cases hd : b.drop i with
    | nil => rw [hd] at h3; simp at h3
    | cons x r =>
      rw [hd] at h3
      simp at h3
      have : b[i]? = (b.drop i)[0]? := by simp
      rw [this, hd]; simp [h3]
  · intro h
    have : (b.drop i).take 1 = [c] := by
      have h2 : (b.drop i)[0]? = some c := by simpa using h
      cases hd : b.drop i with
      | nil => rw [hd] at h2; simp at h2
      | cons x r => rw [hd] at h2; simp at h2; simp [h2]
    rw [this]; simp
theorem bytesLike_eq {id : String} {b : Array UInt8} {t : Tok} : Bytes.bytesLike id (.bytes b t) = pure b := by
  unfold Bytes.bytesLike
  rw [PySem.W.KBy.buffer_eq]
  rfl
section
variable {prog : Program} {w : World} {A : Around} {E : Value → Shared → Prop} {s : Shared} {Q : Value → Shared → Prop} {l : List Nat} {c : Nat} {t u : Tok}
end
end
end PL

end
section
open PySem PySem.Calls PyProof.Rows
set_option Elab.async false
set_option linter.unusedVariables false
set_option linter.unusedSimpArgs false
namespace PL
section
open Builtin

/-- the places of a sign -/
noncomputable def occS (c : UInt8) : List UInt8 → List Nat
  | [] => []
  | x :: r => if x = c then 0 :: (occS c r).map (· + 1) else (occS c r).map (· + 1)
noncomputable def betw (b : List UInt8) : Nat → List Nat → List (List UInt8)
  | last, [] => [b.drop last]
  | last, p :: r => ((b.drop last).take (p - last)) :: betw b (p + 1) r
noncomputable def splitB (c : UInt8) : List UInt8 → List (List UInt8)
  | [] => [[]]
  | x :: r => if x = c then [] :: splitB c r else match splitB c r with
    | [] => [[x]]
    | p :: ps => (x :: p) :: ps
theorem betw_shift (x : UInt8) (r : List UInt8) : ∀ (ps : List Nat) (k : Nat), betw (x :: r) (k + 1) (ps.map (· + 1)) = betw r k ps
  | [], k => rfl
  | p :: ps, k => by
    simp only [List.map_cons, betw, List.drop_succ_cons, Nat.add_sub_add_right]
    rw [betw_shift x r ps (p + 1)]
theorem betw_head (x : UInt8) (r : List UInt8) : ∀ (ps : List Nat), betw (x :: r) 0 (ps.map (· + 1)) = match betw r 0 ps with | [] => [[x]] | p :: q => (x :: p) :: q
  | [] => by simp [betw]
  | p :: ps => by
    simp only [List.map_cons, betw, List.drop_zero, Nat.sub_zero, List.take_succ_cons]
    rw [betw_shift x r ps (p + 1)]
theorem betw_split (c : UInt8) : ∀ b : List UInt8, betw b 0 (occS c b) = splitB c b
  | [] => rfl
  | x :: r => by
    have ih := betw_split c r
    unfold occS splitB
    by_cases h : x = c
    · rw [if_pos h, if_pos h]
      simp only [betw, List.drop_zero, Nat.sub_self, List.take_zero]
      rw [betw_shift, ih]
    · rw [if_neg h, if_neg h, betw_head, ih]
theorem occS_eq (c : UInt8) : ∀ b : List UInt8, occS c b = (List.range b.length).filter fun i => b[i]? == some c
  | [] => rfl
  | x :: r => by
    have ih := occS_eq c r
    unfold occS
    rw [List.length_cons, List.range_succ_eq_map, List.filter_cons, ih, List.filter_map]
    have e : ((fun i => (x :: r)[i]? == some c) ∘ Nat.succ) = fun i => r[i]? == some c := by funext i; simp
    have e2 : (fun i => i + 1) = Nat.succ := rfl
    rw [e, e2]
    by_cases h : x = c
    · rw [if_pos h, if_pos (by simp [h])]
    · rw [if_neg h, if_neg (by simp [h])]
theorem occ_bytes (b : List UInt8) (c : UInt8) : Bytes.occurrences b.toArray #[c] 0 b.length = occS c b := by
  unfold Bytes.occurrences
  have er : (List.range (b.length + 1 - (0 + (#[c] : Array UInt8).size))).map (· + 0) = List.range b.length := by simp
  simp only [er]
  have key : ∀ n, n ≤ b.length → ∃ f, (List.range n).foldl (fun (acc : List Nat × Nat) i => if (i ≥ acc.2 && b.toArray.extract i (i + (#[c] : Array UInt8).size) == #[c]) = true then (i :: acc.1, i + (#[c] : Array UInt8).size) else acc) ([], 0) =
      (((List.range n).filter fun i => b[i]? == some c).reverse, f) ∧ f ≤ n := by
    intro n
    induction n with
    | zero => intro _; exact ⟨0, rfl, Nat.le_refl _⟩
    | succ n ih =>
      intro hn
      obtain ⟨f, e, hf⟩ := ih (by (clear ih er c; (first | lia | omega)))
      rw [List.range_succ, List.foldl_append, e, List.filter_append]
      simp only [List.foldl_cons, List.foldl_nil]
      have eb : (decide (n ≥ f) && b.toArray.extract n (n + (#[c] : Array UInt8).size) == #[c]) = (b[n]? == some c) := by
        rw [decide_eq_true hf, Bool.true_and, Bool.eq_iff_iff, extract_one, beq_iff_eq]
      rw [eb]
      cases hb : (b[n]? == some c) with
      | true =>
        refine ⟨n + 1, ?_, Nat.le_refl _⟩
        simp [hb]
      | false =>
        refine ⟨f, ?_, by (clear hb eb e hn ih er c b; (first | lia | omega))⟩
        simp [hb]
  obtain ⟨f, e, _⟩ := key b.length (Nat.le_refl _)
  rw [e, List.reverse_reverse, occS_eq]
theorem between_eq (b : List UInt8) (ps : List Nat) : Bytes.between b.toArray 1 ps = (betw b 0 ps).map List.toArray := by
  unfold Bytes.between
  have key : ∀ (ps : List Nat) (parts : Array (Array UInt8)) (last : Nat),
      (let r := ps.foldl (fun (x : Array (Array UInt8) × Nat) p => (x.1.push (b.toArray.extract x.2 p), p + 1)) (parts, last); (r.1.push (b.toArray.extract r.2 b.toArray.size)).toList) = parts.toList ++ (betw b last ps).map List.toArray := by
    intro ps
    induction ps with
    | nil =>
      intro parts last
      simp [betw, List.extract_toArray, List.extract_eq_take_drop]
      exact List.take_of_length_le (by simp)
    | cons p ps ih =>
      intro parts last
      rw [List.foldl_cons]
      have := ih (parts.push (b.toArray.extract last p)) (p + 1)
      dsimp only at this ⊢
      rw [this]
      simp [betw, List.extract_toArray, List.extract_eq_take_drop]
  have := key ps #[] 0
  simpa using this
theorem splitB_map {c : Nat} (hc : c < 256) : ∀ {l : List Nat}, (∀ x ∈ l, x < 256) → splitB (UInt8.ofNat c) (l.map UInt8.ofNat) = (splitS c l).map (·.map UInt8.ofNat)
  | [], _ => rfl
  | x :: r, hl => by
    have ih := splitB_map hc (l := r) fun y hy => hl y (List.mem_cons_of_mem _ hy)
    rw [List.map_cons]
    unfold splitB splitS
    by_cases h : x = c
    · rw [if_pos h, if_pos (by rw [h]), ih]; rfl
    · rw [if_neg h, if_neg (fun e => h (ofNat_inj (hl x List.mem_cons_self) hc e)), ih]
      cases splitS c r <;> rfl
theorem splitS_mem {c : Nat} : ∀ {l : List Nat} {p : List Nat}, p ∈ splitS c l → ∀ x ∈ p, x ∈ l
  | [], p, hp, x, hx => by simp [splitS] at hp; subst hp; cases hx
  | y :: r, p, hp, x, hx => by
    unfold splitS at hp
    by_cases h : y = c
    · rw [if_pos h] at hp
      rcases List.mem_cons.mp hp with e | hp
      · subst e; cases hx
      · exact List.mem_cons_of_mem _ (splitS_mem hp x hx)
    · rw [if_neg h] at hp
      cases hs : splitS c r with
      | nil => exact absurd hs (splitS_ne c r)
      | cons q qs =>
        rw [hs] at hp
        rcases List.mem_cons.mp hp with e | hp
        · subst e
          rcases List.mem_cons.mp hx with e | hx
          · subst e; exact List.mem_cons_self
          · exact List.mem_cons_of_mem _ (splitS_mem (p := q) (by rw [hs]; exact List.mem_cons_self) x hx)
        · exact List.mem_cons_of_mem _ (splitS_mem (p := p) (by rw [hs]; exact List.mem_cons_of_mem _ hp) x hx)
theorem splitS_length (c : Nat) : ∀ l : List Nat, (splitS c l).length ≤ l.length + 1
  | [] => by simp [splitS]
  | x :: r => by
    have ih := splitS_length c r
    unfold splitS
    by_cases h : x = c
    · rw [if_pos h]; simp; (clear h x; (first | lia | omega))
    · rw [if_neg h]
      cases hs : splitS c r with
      | nil => simp
      | cons q qs => rw [hs] at ih; simp at ih ⊢; (clear hs q h x c; (first | lia | omega))
theorem splitS_part_length {c : Nat} : ∀ {l : List Nat} {p : List Nat}, p ∈ splitS c l → p.length ≤ l.length
  | [], p, hp => by simp [splitS] at hp; subst hp; simp
  | x :: r, p, hp => by
    unfold splitS at hp
    by_cases h : x = c
    · rw [if_pos h] at hp
      rcases List.mem_cons.mp hp with e | hp
      · subst e; simp
      · have := splitS_part_length hp; simp; (first | lia | omega)
    · rw [if_neg h] at hp
      cases hs : splitS c r with
      | nil => exact absurd hs (splitS_ne c r)
      | cons q qs =>
        rw [hs] at hp
        rcases List.mem_cons.mp hp with e | hp
        · subst e
          have := splitS_part_length (p := q) (l := r) (c := c) (by rw [hs]; exact List.mem_cons_self)
          simp; (clear hp hs qs h x c; (first | lia | omega))
        · have := splitS_part_length (p := p) (l := r) (c := c) (by rw [hs]; exact List.mem_cons_of_mem _ hp)
          simp; (first | lia | omega)

section
variable {prog : Program} {w : World} {A : Around} {E : Value → Shared → Prop} {s : Shared} {l : List Nat} {c : Nat} {t u : Tok}
theorem wpAny_mapM_mkBytes {M : Model} (ps : List (List Nat)) : ∀ (s : Shared) (Q : List Value → Shared → Prop), (∀ p ∈ ps, (∀ x ∈ p, x < 256) ∧ p.length ≤ 16777216) → (∀ xs k, (∀ z, RepL z (ps.map (.txt true)) xs) → Q xs { s with toks := k }) →
    wpAny M A ((ps.map fun p => (p.map UInt8.ofNat).toArray).mapM (Bytes.Kind.new .bytes)) Q E s := by
  induction ps with
  | nil => intro s Q _ h; rw [List.map_nil, List.mapM_nil]; exact wpAny_pure (h [] s.toks fun z => .nil)
  | cons p ps ih =>
    intro s Q hp h
    rw [List.map_cons, List.mapM_cons]
    obtain ⟨h1, h2⟩ := hp p List.mem_cons_self
    refine wpAny_bind ?_
    show wpAny M A (mkBytes _) _ E s
    refine wpAny_mkBytes ?_ (by rw [List.size_toArray, List.length_map]; exact size_ok h2)
    refine wpAny_bind (ih _ _ (fun q hq => hp q (List.mem_cons_of_mem _ hq)) fun xs k r => wpAny_pure (h _ k fun z => .cons (.bytes p _ h1) (r z)))
theorem call_bytes_split {Q : Value → Shared → Prop} (hl : ∀ x ∈ l, x < 256) (hc : c < 256) (hn : l.length ≤ 10000000)
    (h : ∀ xs k, (∀ z, RepL z ((splitS c l).map (.txt true)) xs) → Q (.ref s.heap.objs.size) { s with heap := s.heap.push (lstO xs 0), toks := k }) :
    wpAny (model prog w) A (call (.builtin "bytes.split") [.bytes (l.map UInt8.ofNat).toArray t, .bytes #[UInt8.ofNat c] u]) Q E s := by
  have g : Meets («bytes.split» ⟨[.bytes (l.map UInt8.ofNat).toArray t, .bytes #[UInt8.ofNat c] u], []⟩)
      (fun _ R s => ∀ xs k, (∀ z, RepL z ((splitS c l).map (.txt true)) xs) → R (.ok (.ret (.ref s.heap.objs.size))) { s with heap := s.heap.push (lstO xs 0), toks := k }) := by
    refine .of_wp fun prog w A R s hq => ?_
    have hocc := occ_bytes (l.map UInt8.ofNat) (UInt8.ofNat c)
    rw [List.length_map] at hocc
    have hb : splitB (UInt8.ofNat c) (l.map UInt8.ofNat) = (splitS c l).map (·.map UInt8.ofNat) := splitB_map hc hl
    have hbt := betw_split (UInt8.ofNat c) (l.map UInt8.ofNat)
    show wpAny _ _ (Bytes.bytesLike "bytes.split" (.bytes #[UInt8.ofNat c] u) >>= fun sep => _) _ _ s
    refine wpAny_bind (wpAny_of_eq bytesLike_eq ?_)
    show wpAny _ _ (if (Bytes.occurrences (l.map UInt8.ofNat).toArray #[UInt8.ofNat c] 0 (l.map UInt8.ofNat).toArray.size |>.take ((l.map UInt8.ofNat).toArray.size + 1)).isEmpty = true then _ else
      (Bytes.between (l.map UInt8.ofNat).toArray 1 (Bytes.occurrences (l.map UInt8.ofNat).toArray #[UInt8.ofNat c] 0 (l.map UInt8.ofNat).toArray.size |>.take ((l.map UInt8.ofNat).toArray.size + 1))).mapM (Bytes.Kind.new .bytes) >>= fun vs => newList vs >>= fun r => ret r) _ _ s
    rw [List.size_toArray, List.length_map, hocc]
    have htake : (occS (UInt8.ofNat c) (l.map UInt8.ofNat)).take (l.length + 1) = occS (UInt8.ofNat c) (l.map UInt8.ofNat) := by
      apply List.take_of_length_le
      rw [occS_eq]
      refine Nat.le_trans (List.length_filter_le _ _) ?_
      simp
    rw [htake, between_eq, hbt, hb]
    by_cases he : (occS (UInt8.ofNat c) (l.map UInt8.ofNat)).isEmpty = true
    · rw [if_pos he]
      have h0 : occS (UInt8.ofNat c) (l.map UInt8.ofNat) = [] := List.isEmpty_iff.mp he
      rw [h0] at hbt
      have h1 : (splitS c l).map (·.map UInt8.ofNat) = [l.map UInt8.ofNat] := by rw [← hb, ← hbt]; simp [betw]
      have h2 : splitS c l = [l] := by
        cases hs : splitS c l with
        | nil => exact absurd hs (splitS_ne c l)
        | cons p ps =>
          rw [hs] at h1
          simp only [List.map_cons, List.cons.injEq, List.map_eq_nil_iff] at h1
          obtain ⟨h1, rfl⟩ := h1
          rw [map_ofNat_inj (fun x hx => hl x (splitS_mem (by rw [hs]; exact List.mem_cons_self) x hx)) hl h1]
      refine wpAny_bind (wpAny_rule (wpAny_bind (wpAny_bind (wpAny_typeOf (PySem.W.typeIs_bytes s _ t) (wpAny_pure ?_)))))
      refine wpAny_bind (wpAny_newList (wpAny_pure ⟨_, rfl, ?_⟩) (by show 1 ≤ sizeLine; decide))
      exact hq [.bytes (l.map UInt8.ofNat).toArray t] s.toks fun z => by rw [h2]; exact .cons (.bytes l t hl) .nil
    · rw [if_neg he]
      have em : ((splitS c l).map (·.map UInt8.ofNat)).map List.toArray = (splitS c l).map fun p => (p.map UInt8.ofNat).toArray := by rw [List.map_map]; rfl
      rw [em]
      refine wpAny_bind (wpAny_mapM_mkBytes (splitS c l) s _ (fun p hp => ⟨fun x hx => hl x (splitS_mem hp x hx), Nat.le_trans (splitS_part_length hp) (by (clear hp p em he htake hbt hb hocc hq s R A w prog h hc hl Q; (first | lia | omega)))⟩) fun xs k r => ?_)
      refine wpAny_bind (wpAny_newList (wpAny_pure ⟨_, rfl, hq xs k r⟩) ?_)
      rw [(r fun _ => none).length, List.length_map]
      exact size_ok (Nat.le_trans (splitS_length c l) (by (clear r k xs em he htake hbt hb hocc hq s R A w prog h hc hl Q; (first | lia | omega))))
  exact call_meets BF.slot_split (PySem.W.typeIs_bytes _ _ _) BF.entry_split (BF.args_split _ _) g h
end
end
end PL

end
section
open PySem PySem.Calls PyProof.Rows
set_option Elab.async false
set_option linter.unusedVariables false
set_option linter.unusedSimpArgs false
namespace PL
section
open Builtin
noncomputable abbrev arr (p : List Nat) : Array UInt8 := (p.map UInt8.ofNat).toArray

noncomputable def joinB (sep : List UInt8) : List (List UInt8) → List UInt8
  | [] => []
  | [p] => p
  | p :: q :: r => p ++ sep ++ joinB sep (q :: r)
theorem joinB_map (sep : List Nat) : ∀ ps : List (List Nat), joinB (sep.map UInt8.ofNat) (ps.map (·.map UInt8.ofNat)) = (joinS sep ps).map UInt8.ofNat
  | [] => rfl
  | [p] => rfl
  | p :: q :: r => by
    have ih := joinB_map sep (q :: r)
    simp only [List.map_cons] at ih
    simp [joinB, joinS, ih]
theorem joinS_length (sep : List Nat) : ∀ ps : List (List Nat), (joinS sep ps).length = (ps.map List.length).sum + sep.length * (ps.length - 1)
  | [] => by simp [joinS]
  | [p] => by simp [joinS]
  | p :: q :: r => by
    have ih := joinS_length sep (q :: r)
    simp only [joinS, List.length_append, ih, List.map_cons, List.sum_cons, List.length_cons]
    have : sep.length * (r.length + 1 + 1 - 1) = sep.length * (r.length + 1 - 1) + sep.length := by
      have e1 : r.length + 1 + 1 - 1 = r.length + 1 - 1 + 1 := by (clear ih p q sep; (first | lia | omega))
      rw [e1, Nat.mul_succ]
    (clear ih; (first | lia | omega))
section
variable {prog : Program} {w : World} {A : Around} {E : Value → Shared → Prop} {s : Shared}
end
end
end PL

end
section
open PySem PySem.Calls PyProof.Rows
set_option Elab.async false
set_option linter.unusedVariables false
set_option linter.unusedSimpArgs false
namespace PL

section
variable {C : Cx} {X : XP} {σ : St} {Q : V → St → Prop} {o : Bool} {l m : List Nat} {i : Int} {c : Nat}

theorem strlen {l : List Nat} : (⟨l.toArray⟩ : Str).length = l.length := by simp [Str.length]
theorem str_app (l m : List Nat) : (⟨l.toArray⟩ : Str) ++ ⟨m.toArray⟩ = ⟨(l ++ m).toArray⟩ := Str.ext' (by simp [Str.cps_append])
theorem arr_app (l m : List Nat) : arr l ++ arr m = arr (l ++ m) := by simp [arr]

theorem Bin.add_txt (hn : l.length + m.length ≤ 16777216) (h : Q (.txt o (l ++ m)) σ) : Bin C .Add (.txt o l) (.txt o m) Q X σ := by
  intro z₀ x y rx ry zs z s hz hR
  have rxq := rx.txt_; clear rx; rcases rxq with ⟨rfl, t, rfl⟩ | ⟨rfl, t, rfl, hl⟩
  · have ryq := ry.e; clear ry; obtain ⟨u, rfl⟩ := ryq
    refine SB.add (fun t' k => ?_) (by rw [strlen, strlen]; exact size_ok hn)
    rw [str_app]
    exact PVal.toks hR (.str _ _) h
  · have ryq := ry.e; clear ry; obtain ⟨u, rfl, hm⟩ := ryq
    refine PySem.W.KBy.add_bytes (by simpa using hn) fun t' k => ?_
    rw [arr_app]
    exact PVal.toks hR (.bytes _ _ fun c hc => (List.mem_append.mp hc).elim (hl c) (hm c)) h
/-! methods of texts -/
end
end PL

end
section
open PySem PySem.Calls PyProof.Rows
set_option Elab.async false
set_option linter.unusedVariables false
set_option linter.unusedSimpArgs false
namespace PL

noncomputable abbrev XL := String → Led → Prop

/-- what a call of a function does, for every caller -/
noncomputable def CallT (g : Gd) (n : Nat) (f : Value) (vs : List V) (Q : V → Led → Prop) (X : XL) (H : Led) : Prop :=
  ∀ (A : Around) (outer : List Env) (zs z : Z) (s : Shared) (xs : List Value), A.depth + n ≤ 900 → A.units + 20 * n ≤ 9000 → A.frames = some outer → A.handled = none → FrOK outer zs → RH g zs H z s → RepL z vs xs →
    codeAny (model g.prog g.w) A (.call f ⟨xs, []⟩) (fun r s' => match r with
      | .ok (.ret val) => ∃ z' H' v, Z.le z z' ∧ RH g zs H' z' s' ∧ Rep z' v val ∧ Q v H'
      | .ok _ => False
      | .error e => ∃ z' H' cls, Z.le z z' ∧ RH g zs H' z' s' ∧ Fly g zs H' z' outer s' e cls ∧ X cls H') s

theorem Fly.mono {g : Gd} {zs zs' : Z} {H : Led} {z : Z} {fr : List Env} {s : Shared} {e : Value} {cls : String} (h : ∀ b o, zs b = some o → zs' b = some o) (F : Fly g zs' H z fr s e cls) : Fly g zs H z fr s e cls := by
  obtain ⟨a, B, he, F⟩ := F
  exact ⟨a, B, he, F.stays, F.new, F.frames, F.hz, F.led, fun b o q => F.hid b o (h b o q), F.track⟩
theorem RH.slots {g : Gd} {zs : Z} {H : Led} {z : Z} {s : Shared} {h' B : Heap} (r : RH g zs H z s) (k : B.StaysIn h') (hz : ∀ b o, z b = some o → B.get? b = some o) (hH : ∀ p ∈ H, AOK g z B p.1 p.2)
    (hid : ∀ b o, zs b = some o → (∀ vs ep, o.data ≠ .dict vs ep) → B.get? b = some o) (u : s.heap.UpToSlots h') : RH g zs H z { s with heap := h' } where
  hz b o e := k b o (hz b o e)
  hbase := r.hbase
  hzs b o e := by
    by_cases hd : ∀ vs ep, o.data ≠ .dict vs ep
    · exact ⟨o.slots, k b o (hid b o e hd), fun _ => rfl⟩
    · obtain ⟨sl, q, w⟩ := r.hzs b o e
      have hd' : ∃ vs ep, o.data = .dict vs ep := Classical.byContradiction fun q => hd fun vs ep e => q ⟨vs, ep, e⟩
      obtain ⟨vs, ep, hd'⟩ := hd'
      obtain ⟨sl', q'⟩ := u b _ q fun ws e => by rw [show ({ o with slots := sl } : Obj).data = o.data from rfl, hd'] at e; cases e
      exact ⟨sl', q', fun q => absurd hd' (q vs ep)⟩
  disj := r.disj
  hH p hp := ⟨(hH p hp).keep (k _), (r.hH p hp).2⟩
  nodup := r.nodup
  gens := r.gens
  os := r.os
theorem leave_fly {M : Model} {A : Around} {env : Env} {outer : List Env} {L : Addr} {g : Gd} {zs : Z} {H : Led} {z : Z} {s : Shared} {e : Value} {cls : String} {Q : Unit → Shared → Prop} {E : Value → Shared → Prop}
    (hfr : A.frames = some (env :: outer)) (hf : env.frame = some L) (F : Fly g zs H z (env :: outer) s e cls) (r : RH g zs H z s)
    (hQ : ∀ h', RH g zs H z { s with heap := h' } → Fly g zs H z outer { s with heap := h' } e cls → Q () { s with heap := h' }) : wpAny M A (leaving env e) Q E s := by
  obtain ⟨a, B, rfl, F⟩ := F
  have fin : ∀ h' a0, Heap.LeftW B (env :: outer) a (.type cls) a0 s.heap h' → Q () { s with heap := h' } := by
    rintro h' a0 ⟨k1, k2, k3, k4⟩
    exact hQ h' (r.slots k1 F.hz F.led F.hid k4) ⟨a, B, rfl, k1, F.new, k2.2.2, F.hz, F.led, F.hid, .inr (.inl ⟨a0, k3⟩)⟩
  rcases F.track with ⟨oe, vs, a0, h1, h2, h3, h4, h5, _⟩ | ⟨a0, tr⟩ | ⟨env', rest, L', a0, e1, e2, tr⟩
  · exact wpAny_leaving_firstW hfr F.frames hf h1 F.stays F.new h3 h4 h5 fun h' k => fin h' a0 (h2 ▸ k)
  · exact wpAny_leaving_nextW hfr F.frames hf tr F.stays F.new fun h' k => fin h' a0 k
  · cases e1
    rw [hf] at e2; cases e2
    show wpAny M A (do noteFrame (.ref a) env; setFlight (.ref a) none) Q E s
    refine wpAny_bind (wpAny_noteFrame_againW hf tr ?_)
    exact wpAny_setFlight_noneW F.stays F.frames tr fun h' k1 k2 k3 k4 => fin h' a0 ⟨k1, k2, k3, fun b o hb hn => ⟨o.slots, k4 b o hb hn⟩⟩

section
variable {C : Cx} {σ : St} {zs z : Z} {s : Shared}

/-- the caller's own frame and cells, hidden -/
noncomputable def hid (C : Cx) (zs : Z) (h : Heap) : Z := fun b => if b = C.env.locals ∨ b ∈ C.env.cells.map (·.2) then h.get? b else zs b
theorem hid_of {b : Addr} {o : Obj} (hR : R C zs σ z s) (h : zs b = some o) : hid C zs s.heap b = some o := by
  unfold hid
  split
  · rename_i e
    rcases e with e | e
    · subst e; rw [hR.locFree.2.1] at h; cases h
    · obtain ⟨p, hp, rfl⟩ := List.mem_map.mp e
      obtain ⟨⟨ov, oc, e1, e2⟩, _⟩ := hR.cellsOk p hp
      obtain ⟨sl, e3, e4⟩ := hR.rh.hzs _ _ h
      rw [e1] at e3
      have e5 : oc = { o with slots := sl } := Option.some.inj e3
      have e6 : o.data = .cell ov := by rw [e5] at e2; exact e2
      rw [e1, e5, e4 (fun vs ep e7 => by rw [e6] at e7; cases e7)]
  · exact h
theorem hid_none {b : Addr} (h1 : b ≠ C.env.locals) (h2 : b ∉ C.env.cells.map (·.2)) (h3 : zs b = none) {h : Heap} : hid C zs h b = none := by
  unfold hid; rw [if_neg (by rintro (e | e) <;> contradiction)]; exact h3
theorem R.hide (hR : R C zs σ z s) : RH C.g (hid C zs s.heap) σ.H z s where
  hz := hR.rh.hz
  hbase := hR.rh.hbase
  hzs b o h := by
    unfold hid at h
    split at h
    · exact ⟨o.slots, h, fun _ => rfl⟩
    · exact hR.rh.hzs b o h
  disj b o h := by
    unfold hid at h
    split at h
    · rename_i e
      rcases e with e | e
      · subst e; exact hR.locFree.1
      · obtain ⟨p, hp, rfl⟩ := List.mem_map.mp e
        exact (hR.cellsOk p hp).2.1
    · exact hR.rh.disj b o h
  hH p hp := by
    obtain ⟨a, b, c⟩ := hR.rh.hH p hp
    refine ⟨a, b, hid_none (fun e => hR.locFree.2.2 (e ▸ List.mem_map_of_mem (f := (·.1)) hp)) (fun e => ?_) c⟩
    obtain ⟨q, hq, e⟩ := List.mem_map.mp e
    exact (hR.cellsOk q hq).2.2.2.2 (e ▸ List.mem_map_of_mem (f := (·.1)) hp)
  nodup := hR.rh.nodup
  gens := hR.rh.gens
  os := hR.rh.os
theorem ns_slots {h h' : Heap} {L : Addr} {m : Str → Option Value} (n : h.Ns L m) (k : ∀ o, h.get? L = some o → ∃ sl, h'.get? L = some { o with slots := sl }) : h'.Ns L m := by
  obtain ⟨o, es, ep, a, b, c⟩ := n
  obtain ⟨sl, e⟩ := k o a
  exact ⟨_, es, ep, e, b, c⟩
theorem cell_slots {h h' : Heap} {c : Addr} {v : Option Value} (n : h.IsCell c v) (k : ∀ o, h.get? c = some o → ∃ sl, h'.get? c = some { o with slots := sl }) : h'.IsCell c v := by
  obtain ⟨o, a, b⟩ := n
  obtain ⟨sl, e⟩ := k o a
  exact ⟨_, e, b⟩
/-- back in the caller -/
theorem R.back (hR : R C zs σ z s) {H' : Led} {z' : Z} {s' : Shared} (l : Z.le z z') (r : RH C.g (hid C zs s.heap) H' z' s') : R C zs ⟨σ.loc, H'⟩ z' s' := by
  have own : ∀ b, (b = C.env.locals ∨ b ∈ C.env.cells.map (·.2)) → ∀ o, s.heap.get? b = some o → hid C zs s.heap b = some o := by
    intro b hb o ho
    unfold hid; rw [if_pos hb]; exact ho
  have keep : ∀ b, (b = C.env.locals ∨ b ∈ C.env.cells.map (·.2)) → ∀ o, s.heap.get? b = some o → ∃ sl, s'.heap.get? b = some { o with slots := sl } := fun b hb o ho => let ⟨sl, q, _⟩ := r.hzs b o (own b hb o ho); ⟨sl, q⟩
  have free : ∀ b, (b = C.env.locals ∨ b ∈ C.env.cells.map (·.2)) → ∀ o, s.heap.get? b = some o → z' b = none ∧ b ∉ H'.map (·.1) := by
    intro b hb o ho
    refine ⟨r.disj b o (own b hb o ho), fun e => ?_⟩
    obtain ⟨p, hp, rfl⟩ := List.mem_map.mp e
    have := (r.hH p hp).2.2
    rw [own _ hb o ho] at this; cases this
  obtain ⟨m, hn, hm⟩ := hR.ns
  have hL : ∃ o, s.heap.get? C.env.locals = some o := let ⟨o, _, _, a, _⟩ := hn; ⟨o, a⟩
  obtain ⟨oL, hL⟩ := hL
  refine ⟨⟨r.hz, r.hbase, fun b o h => r.hzs b o (hid_of hR h), fun b o h => r.disj b o (hid_of hR h), fun p hp => ?_, r.nodup, r.gens, r.os⟩, ⟨m, ns_slots hn (keep _ (.inl rfl)), fun x v a b => ?_⟩, fun x v a b => ?_, fun p hp => ?_, ?_, hR.fr⟩
  · obtain ⟨a, b, c⟩ := r.hH p hp
    refine ⟨a, b, ?_⟩
    cases e : zs p.1 with
    | none => rfl
    | some o => rw [hid_of hR e] at c; cases c
  · obtain ⟨val, p, q⟩ := hm x v a b
    exact ⟨val, p, q.mono l⟩
  · obtain ⟨c, val, p, q, w⟩ := hR.cells x v a b
    exact ⟨c, val, p, cell_slots q (keep c (.inr (List.mem_map_of_mem (f := (·.2)) (mem_of_lookup p)))), w.mono l⟩
  · obtain ⟨⟨ov, a⟩, _, c, d, _⟩ := hR.cellsOk p hp
    have hm' : p.2 = C.env.locals ∨ p.2 ∈ C.env.cells.map (·.2) := .inr (List.mem_map_of_mem (f := (·.2)) hp)
    obtain ⟨o, ho, _⟩ := id a
    obtain ⟨f1, f2⟩ := free _ hm' o ho
    exact ⟨⟨ov, cell_slots a (keep _ hm')⟩, f1, c, d, f2⟩
  · obtain ⟨f1, f2⟩ := free _ (.inl rfl) oL hL
    exact ⟨f1, hR.locFree.2.1, f2⟩

theorem CallV.fn {X : XP} {Q : V → St → Prop} {f : Value} {vs : List V} {n : Nat} (hn : n ≤ C.n) (hh : C.A.handled = none)
    (h : CallT C.g n f vs (fun v H' => Q v ⟨σ.loc, H'⟩) (fun cls H' => X cls ⟨σ.loc, H'⟩) σ.H) : CallV C f vs Q X σ := by
  intro z₀ xs r zs z s hz hR
  have hd := C.hdep
  have hu := C.hunits
  have hfr : ∃ fr, C.A.frames = some fr ∧ FrOK fr (hid C zs s.heap) := by
    have ho : FrOK C.outer (hid C zs s.heap) := ⟨fun e he => let ⟨a, L, o, b, c, d⟩ := hR.fr.ok e he; ⟨a, L, o, b, hid_of hR c, d⟩⟩
    rcases C.hframes with ⟨a, b⟩ | a
    · refine ⟨_, a, ⟨fun e he => ?_⟩⟩
      rcases List.mem_cons.mp he with rfl | he
      · obtain ⟨m, ⟨oL, es, ep, hL, hdt, _⟩, _⟩ := hR.ns
        refine ⟨by rw [C.hk]; decide, _, oL, b, ?_, _, _, hdt⟩
        unfold hid; rw [if_pos (.inl rfl)]; exact hL
      · exact ho.ok e he
    · exact ⟨_, a, ho⟩
  obtain ⟨fr, hfr1, hfr2⟩ := hfr
  refine wpAny_call (codeAny_mono (h C.A fr _ z s xs (by (clear hfr2 hfr1 fr hu hR hz s z zs r xs z₀ h hh vs f Q X; (first | lia | omega))) (by (clear hfr2 hfr1 fr hd hR hz s z zs r xs z₀ h hh vs f Q X; (first | lia | omega))) hfr1 hh hfr2 hR.hide (r.mono hz)) ?_)
  rintro res s' hres
  cases res with
  | ok fl =>
    cases fl with
    | ret val =>
      obtain ⟨z', H', v, l, r', rv, q⟩ := hres
      exact ⟨z', _, l, hR.back l r', v, rv, q⟩
    | _ => exact hres
  | error e =>
    obtain ⟨z', H', cls, l, r', fl, x⟩ := hres
    exact ⟨z', _, cls, fr, l, hR.back l r', hfr1, fl.mono fun b o q => hid_of hR q, x⟩
end

/-- the names of a call, bound -/
noncomputable def bindV : List (Str × V) → List (Str × V) → List (Str × V)
  | [], l => l
  | (x, v) :: r, l => bindV r (setL l x v)

inductive RepB (z : Z) : List (Str × V) → List (Str × Value) → Prop
  | nil : RepB z [] []
  | cons {x : Str} {v : V} {val : Value} {l : List (Str × V)} {b : List (Str × Value)} (h : Rep z v val) (t : RepB z l b) : RepB z ((x, v) :: l) ((x, val) :: b)
theorem RepB.zip {z : Z} : ∀ (ns : List Str) {vs : List V} {xs : List Value}, RepL z vs xs → RepB z (ns.zip vs) (ns.zip xs)
  | [], _, _, _ => by simp; exact .nil
  | n :: ns, [], _, r => by cases r.inv0; exact .nil
  | n :: ns, v :: vs, _, r => by obtain ⟨x, xs, rfl, h, t⟩ := r.inv; exact RepB.cons h (RepB.zip ns t)

theorem bind_reps {z : Z} {kindOf : Str → Option NameKind} {lv : List (Str × V)} {bs : List (Str × Value)} (rb : RepB z lv bs) : ∀ (loc : List (Str × V)) (m cm : Str → Option Value),
    (∀ x v, loc.lookup x = some v → kindOf x = some .local → ∃ val, m x = some val ∧ Rep z v val) → (∀ x v, loc.lookup x = some v → kindOf x ≠ some .local → ∃ val, cm x = some val ∧ Rep z v val) →
    (∀ x v, (bindV lv loc).lookup x = some v → kindOf x = some .local → ∃ val, bindL kindOf bs m x = some val ∧ Rep z v val) ∧
    (∀ x v, (bindV lv loc).lookup x = some v → kindOf x ≠ some .local → ∃ val, bindC kindOf bs cm x = some val ∧ Rep z v val) := by
  induction rb with
  | nil => intro loc m cm h1 h2; exact ⟨h1, h2⟩
  | @cons y v val lv bs r t ih =>
    intro loc m cm h1 h2
    unfold bindV bindL bindC
    refine ih _ _ _ ?_ ?_
    · intro x w hx hk
      rw [lookup_setL] at hx
      by_cases e : x = y
      · subst e; rw [if_pos rfl] at hx; cases hx
        rw [if_pos hk]; exact ⟨val, by simp, r⟩
      · rw [if_neg e] at hx
        obtain ⟨u, p, q⟩ := h1 x w hx hk
        refine ⟨u, ?_, q⟩
        split
        · simp [e, p]
        · exact p
    · intro x w hx hk
      rw [lookup_setL] at hx
      by_cases e : x = y
      · subst e; rw [if_pos rfl] at hx; cases hx
        rw [if_neg hk]; exact ⟨val, by simp, r⟩
      · rw [if_neg e] at hx
        obtain ⟨u, p, q⟩ := h2 x w hx hk
        refine ⟨u, ?_, q⟩
        split
        · exact p
        · simp [e, p]

/-- a frame of a function whose table is `sc` -/
structure In (C : Cx) (g : Gd) (n : Nat) (sc : Scope) : Prop where
  g : C.g = g
  n : C.n = n
  kind : ∀ x, C.env.kindOf x = sc.names.lookup x
  cell : ∀ x, sc.names.lookup x = some .cell → ∃ c, C.env.cells.lookup x = some c
  calm : C.A.handled = none
  fn : C.env.scope = sc
  gl : C.env.globals = mainGlobals

/-- a def of the text -/
structure FnB (g : Gd) (a : Addr) (fd : FuncData) (body : List Stmt) (sc : Scope) : Prop where
  at_ : ∃ o, g.base.get? a = some o ∧ o.data = .func fd
  code : g.base.CodeRec fd.code fd.qualname
  body : fd.body = .stmts body
  closure : fd.closure = []
  scope : fd.scope = sc
  globals : fd.globals = mainGlobals
  builtins : fd.builtins = builtinsNs
  kind : sc.kind = .function
  co : sc.isCoroutine = false
  gen : sc.isGenerator = false
  nodup : ((cellsFrom 0 sc.names []).map (·.1)).Nodup
/-- one with plain parameters -/
structure IsFn (g : Gd) (a : Addr) (fd : FuncData) (body : List Stmt) (sc : Scope) (params : List Str) : Prop where
  b : FnB g a fd body sc
  bind : ∀ xs : List Value, xs.length = params.length → bindArgs fd ⟨xs, []⟩ = pure (params.zip xs)
  names : ∀ x ∈ params, sc.names.lookup x = some .local ∨ sc.names.lookup x = some .cell
theorem cellsFrom_keys : ∀ (l : List (Str × NameKind)) (n m : Nat) (acc acc' : List (Str × Addr)), acc.map (·.1) = acc'.map (·.1) → (cellsFrom n l acc).map (·.1) = (cellsFrom m l acc').map (·.1)
  | [], _, _, _, _, h => h
  | (x, k) :: r, n, m, acc, acc', h => by
    unfold cellsFrom
    split
    · exact cellsFrom_keys r _ _ _ _ (by simp [h])
    · exact cellsFrom_keys r _ _ _ _ h
theorem lookup_of_mem : ∀ {l : List (Str × Addr)} {p : Str × Addr}, (l.map (·.1)).Nodup → p ∈ l → l.lookup p.1 = some p.2
  | [], _, _, h => by cases h
  | (k, c) :: r, p, hn, h => by
    rw [List.map_cons, List.nodup_cons] at hn
    rw [List.lookup_cons]
    rcases List.mem_cons.mp h with e | h
    · subst e; simp
    · have : (p.1 == k) = false := beq_eq_false_iff_ne.mpr fun e => hn.1 (e ▸ List.mem_map_of_mem (f := (·.1)) h)
      rw [this]; exact lookup_of_mem hn.2 h

theorem zip_fst {α : Type} : ∀ {ns : List Str} {xs : List α} {p : Str × α}, p ∈ ns.zip xs → p.1 ∈ ns
  | [], _, _, h => by simp at h
  | _ :: _, [], _, h => by simp at h
  | n :: ns, x :: xs, p, h => by
    rw [List.zip_cons_cons] at h
    rcases List.mem_cons.mp h with e | h
    · subst e; exact List.mem_cons_self
    · exact List.mem_cons_of_mem _ (zip_fst h)

theorem RepB.fst {z : Z} {l : List (Str × V)} {b : List (Str × Value)} (r : RepB z l b) : b.map (·.1) = l.map (·.1) := by
  induction r with
  | nil => rfl
  | cons _ _ ih => rw [List.map_cons, List.map_cons, ih]
theorem bindV_mem : ∀ (lv : List (Str × V)) (loc : List (Str × V)) {y : Str} {v : V}, (bindV lv loc).lookup y = some v → y ∈ lv.map (·.1) ∨ loc.lookup y = some v
  | [], loc, y, v, e => .inr e
  | (x, u) :: r, loc, y, v, e => by
    unfold bindV at e
    rcases bindV_mem r _ e with h | h
    · exact .inl (List.mem_cons_of_mem _ h)
    · rw [lookup_setL] at h
      by_cases eq : y = x
      · subst eq; exact .inl List.mem_cons_self
      · rw [if_neg eq] at h; exact .inr h
/-- the frame on top is the function's own -/
noncomputable def OwnFr (C : Cx) : Prop := C.A.frames = some (C.env :: C.outer) ∧ C.env.frame = some C.env.locals
/-- the frame is made, the names are bound, the body runs -/
theorem enter_fn {g : Gd} {n : Nat} {a : Addr} {fd : FuncData} {body : List Stmt} {sc : Scope} {Q : V → Led → Prop} {X : XL} {H : Led} {A : Around} {outer : List Env} {zs z : Z} {s : Shared} {lv : List (Str × V)} {binds : List (Str × Value)} {R' : Result → Shared → Prop} {E : Value → Shared → Prop} (F : FnB g a fd body sc)
    (hd : A.depth + (n + 1) ≤ 900) (hu : A.units + 20 * (n + 1) ≤ 9000) (hfr : A.frames = some outer) (hh : A.handled = none) (hfk : FrOK outer zs) (rh : RH g zs H z s) (rb : RepB z lv binds)
    (hnames : ∀ x ∈ lv.map (·.1), sc.names.lookup x = some .local ∨ sc.names.lookup x = some .cell)
    (hR : ∀ r s', (match r with
      | .ok (.ret val) => ∃ z' H' v, Z.le z z' ∧ RH g zs H' z' s' ∧ Rep z' v val ∧ Q v H'
      | .ok _ => False
      | .error e => ∃ z' H' cls, Z.le z z' ∧ RH g zs H' z' s' ∧ Fly g zs H' z' outer s' e cls ∧ X cls H') → R' r s')
    (h : ∀ C : Cx, In C g n sc → C.ro = [] → OwnFr C → TSs C body (fun fl σ' => Q (match fl with | .ret v => v | _ => .none) σ'.H) (fun cls σ' => X cls σ'.H) ⟨bindV lv [], H⟩) :
    wpAny (model g.prog g.w) A.in1 (newFunctionEnv fd.scope fd.globals fd.closure binds (fd.qualname ++ ".<locals>.") (some a) fd.code none fd.builtins) (fun env s₂ => s₂.heap.NoLimit ∧ codeAny (model g.prog g.w) A (.func body env) R' s₂) E s := by
  have hb := rh.base
  rw [F.closure]
  refine wpAny_newFunctionEnv_cells (by rw [F.scope]; exact F.kind) ?_ fun env he s₁ hin => ?_
  · intro x hx
    rw [F.scope]
    have hm : x.1 ∈ lv.map (·.1) := by rw [← rb.fst]; exact List.mem_map_of_mem (f := (·.1)) hx
    rcases hnames x.1 hm with e | e
    · exact .inl e
    · exact .inr ⟨e, PySem.W.cellsFrom_some _ _ _ (.inl e)⟩
  subst he
  refine ⟨(g.lim.keeps hb).keeps hin.toInCall.keep, codeAny_func ?_⟩
  rw [F.scope, F.globals, F.builtins] at hin ⊢
  let C : Cx := {
    g := g, A := A.deeper (newEnv sc s.heap.objs.size mainGlobals (cellsFrom (s.heap.objs.size + 1) sc.names []) (fd.qualname ++ ".<locals>.") (some a) fd.code none builtinsNs)
    env := newEnv sc s.heap.objs.size mainGlobals (cellsFrom (s.heap.objs.size + 1) sc.names []) (fd.qualname ++ ".<locals>.") (some a) fd.code none builtinsNs
    outer := outer, n := n, hk := F.kind, hglob := rfl, hbuilt := rfl
    hdep := by show A.depth + 1 + n ≤ 900; (clear hin s₁ hb h hR hnames rb rh hfk hh hfr hu F E R' binds lv s z zs outer H X Q sc body fd a g; (first | lia | omega))
    hunits := by show A.units + 3 + 20 * n ≤ 9000; (clear hin s₁ hb h hR hnames rb rh hfk hh hfr hd F E R' binds lv s z zs outer H X Q sc body fd a g; (first | lia | omega))
    hframes := .inl ⟨by show (A.frames.map _) = _; rw [hfr]; rfl, rfl⟩
    apart := hin.apart }
  have hIn : In C g n sc := ⟨rfl, rfl, fun x => rfl, fun x hx => by
    have := PySem.W.cellsFrom_some (x := x) sc.names (s.heap.objs.size + 1) [] (.inl hx)
    exact Option.isSome_iff_exists.mp this, hh, rfl, rfl⟩
  have hnew : ∀ b, s.heap.objs.size ≤ b → z b = none ∧ zs b = none ∧ b ∉ H.map (·.1) := fun b hb => ⟨rh.fresh_z hb, rh.fresh_zs hb, rh.fresh_H hb⟩
  obtain ⟨hrepL, hrepC⟩ := bind_reps (kindOf := C.env.kindOf) rb [] (fun _ => none) (fun _ => none) (fun x v e => by simp at e) (fun x v e => by simp at e)
  obtain ⟨h₁, tk, hs₁⟩ := hin.toInCall.same
  have hR0 : R C zs ⟨bindV lv [], H⟩ z s₁ := by
    refine ⟨?_, ⟨_, hin.toInCall.ns, fun x v e k => hrepL x v e k⟩, fun x v e k => ?_, fun p hp => ?_, ?_, hfk⟩
    · rw [hs₁]
      exact rh.grow fun b o e => by
        have := hin.toInCall.keep b o e
        rw [hs₁] at this; exact this
    · obtain ⟨val, e1, r⟩ := hrepC x v e (fun q => by rw [q] at k; cases k)
      have hm := (bindV_mem lv [] e).resolve_right (by simp)
      have hk : sc.names.lookup x = some .cell := by
        rcases hnames x hm with q | q
        · have : cellish (sc.names.lookup x) = true := k
          rw [q] at this; cases this
        · exact q
      have hlk : (cellsFrom (s.heap.objs.size + 1) sc.names []).lookup x ≠ none := by
        have := PySem.W.cellsFrom_some (x := x) sc.names (s.heap.objs.size + 1) [] (.inl hk)
        intro q; rw [q] at this; cases this
      obtain ⟨c, hc⟩ := Option.ne_none_iff_exists'.mp hlk
      refine ⟨c, val, hc, ?_, r⟩
      have := hin.cell x c hc
      rw [show bindC C.env.kindOf binds (fun _ => none) x = some val from e1] at this
      exact this
    · have hlt := hin.above p.1 p.2 hp
      obtain ⟨q1, q2, q3⟩ := hnew p.2 (Nat.le_of_lt hlt)
      have hlk : (cellsFrom (s.heap.objs.size + 1) sc.names []).lookup p.1 = some p.2 :=
        lookup_of_mem (by rw [cellsFrom_keys sc.names _ 0 [] [] rfl]; exact F.nodup) hp
      exact ⟨⟨_, hin.cell _ _ hlk⟩, q1, .inl q2, Nat.ne_of_gt hlt, q3⟩
    · obtain ⟨q1, q2, q3⟩ := hnew s.heap.objs.size (Nat.le_refl _)
      exact ⟨q1, q2, q3⟩
  have hOwn : OwnFr C := ⟨by show (A.frames.map _) = _; rw [hfr]; rfl, rfl⟩
  refine wpAny_mono (h C hIn rfl hOwn z zs z s₁ (Z.le_refl _) hR0) ?_ ?_
  · rintro fl s2 ⟨z2, σ2, l2, R2, f, rf, q⟩
    cases rf with
    | ret r => exact hR _ _ ⟨z2, _, _, l2, R2.rh, r, q⟩
    | next => exact hR _ _ ⟨z2, _, _, l2, R2.rh, .none, q⟩
    | brk => exact hR _ _ ⟨z2, _, _, l2, R2.rh, .none, q⟩
    | cont => exact hR _ _ ⟨z2, _, _, l2, R2.rh, .none, q⟩
  · rintro e s2 ⟨z2, σ2, cls, fr, l2, R2, q, fl, x⟩
    have q' : C.A.frames = some (C.env :: outer) := by show (A.frames.map _) = _; rw [hfr]; rfl
    rw [q'] at q
    cases q
    exact leave_fly q' (L := C.env.locals) rfl fl R2.rh fun h' r' fl' => hR _ _ ⟨z2, σ2.H, cls, l2, r', fl', x⟩
theorem zip_names {ns : List Str} {vs : List V} {P : Str → Prop} (h : ∀ x ∈ ns, P x) : ∀ x ∈ (ns.zip vs).map (·.1), P x := fun x hx => by
  obtain ⟨p, hp, rfl⟩ := List.mem_map.mp hx
  exact h _ (zip_fst hp)
theorem CallT.defX {g : Gd} {n : Nat} {a : Addr} {fd : FuncData} {body : List Stmt} {sc : Scope} {params : List Str} {vs : List V} {Q : V → Led → Prop} {X : XL} {H : Led} (F : IsFn g a fd body sc params) (hlen : vs.length = params.length)
    (h : ∀ C : Cx, In C g n sc → C.ro = [] → OwnFr C → TSs C body (fun fl σ' => Q (match fl with | .ret v => v | _ => .none) σ'.H) (fun cls σ' => X cls σ'.H) ⟨bindV (params.zip vs) [], H⟩) : CallT g (n + 1) (.ref a) vs Q X H := by
  intro A outer zs z s xs hd hu hfr hh hfk rh rv
  obtain ⟨o, ho, hdata⟩ := F.b.at_
  refine codeAny_call_function (by show A.depth < 1000; (clear hdata ho o rv rh hfk hh hfr hu xs s z zs outer h hlen F H X Q sc body fd a g vs params; (first | lia | omega))) (rh.base _ _ ho) hdata (by rw [F.b.scope]; exact F.b.co) (by rw [F.b.scope]; exact F.b.gen) F.b.body (F.b.code.keeps rh.base) ?_
  rw [F.bind xs (by rw [rv.length, hlen])]
  exact wpAny_pure (enter_fn F.b hd hu hfr hh hfk rh (RepB.zip params rv) (zip_names F.names) (fun _ _ k => k) h)
theorem CallT.def_ {g : Gd} {n : Nat} {a : Addr} {fd : FuncData} {body : List Stmt} {sc : Scope} {params : List Str} {vs : List V} {Q : V → Led → Prop} {X : XL} {H : Led} (F : IsFn g a fd body sc params) (hlen : vs.length = params.length)
    (h : ∀ C : Cx, In C g n sc → C.ro = [] → TSs C body (fun fl σ' => Q (match fl with | .ret v => v | _ => .none) σ'.H) (fun cls σ' => X cls σ'.H) ⟨bindV (params.zip vs) [], H⟩) : CallT g (n + 1) (.ref a) vs Q X H := CallT.defX F hlen fun C a b _ => h C a b
end PL

end
section
open PySem PySem.Calls PyProof.Rows
set_option Elab.async false
set_option linter.unusedVariables false
set_option linter.unusedSimpArgs false
namespace PL


section
variable {C : Cx} {zs z : Z} {σ : St} {s : Shared} {I : Addr} {o o' : Obj}

theorem put_le_of (hI : zs I = none) {b : Addr} {p : Obj} (h : zs b = some p) : zs.put I o b = some p := by
  unfold Z.put
  by_cases e : b = I
  · subst e; rw [hI] at h; cases h
  · rw [if_neg e]; exact h
theorem put_none {b : Addr} (h : zs.put I o b = none) : b ≠ I ∧ zs b = none := by
  unfold Z.put at h
  by_cases e : b = I
  · rw [if_pos e] at h; cases h
  · rw [if_neg e] at h; exact ⟨e, h⟩
theorem put_some {b : Addr} {p : Obj} (h : zs.put I o b = some p) (e : b ≠ I) : zs b = some p := by
  unfold Z.put at h; rw [if_neg e] at h; exact h
theorem FrOK.put {outer : List Env} (h : FrOK outer zs) (hI : zs I = none) : FrOK outer (zs.put I o) :=
  ⟨fun e he => let ⟨a, L, q, b, c, d⟩ := h.ok e he; ⟨a, L, q, b, put_le_of hI c, d⟩⟩

/-- the hidden object's own kind: no cell, no namespace -/
noncomputable def Stays (o : Obj) : Prop := (∀ ov, o.data ≠ .cell ov) ∧ ∀ vs ep, o.data ≠ .dict vs ep
theorem Stays.fields {o : Obj} {fs : Array Value} (h : o.data = .fields fs) : Stays o := ⟨fun _ e => (by rw [h] at e; cases e), fun _ _ e => (by rw [h] at e; cases e)⟩
theorem Stays.list (items : List Value) (n : Nat) : Stays (lstO items n) := ⟨fun _ e => (by cases e), fun _ _ e => (by cases e)⟩

theorem RH.hidden {g : Gd} {H : Led} (r : RH g zs H z s) (h : zs I = some o) (hs : Stays o) : s.heap.get? I = some o := by
  obtain ⟨sl, e, k⟩ := r.hzs _ _ h
  rw [e, k hs.2]
theorem R.hideAt (hR : R C zs σ z s) (e : s.heap.get? I = some o) (h0 : z I = none) (q : Apart C zs σ I) : R C (zs.put I o) σ z s where
  rh := {
    hz := hR.rh.hz
    hbase := hR.rh.hbase
    hzs := fun b p h => by
      by_cases hb : b = I
      · subst hb; rw [put_self] at h; cases h; exact ⟨o.slots, e, fun _ => rfl⟩
      · exact hR.rh.hzs b p (put_some h hb)
    disj := fun b p h => by
      by_cases hb : b = I
      · subst hb; exact h0
      · exact hR.rh.disj b p (put_some h hb)
    hH := fun p hp => let ⟨a, b, c⟩ := hR.rh.hH p hp; ⟨a, b, put_ne (fun w => q.2.2.1 (w ▸ List.mem_map_of_mem (f := (·.1)) hp)) c⟩
    nodup := hR.rh.nodup
    gens := hR.rh.gens
    os := hR.rh.os }
  ns := hR.ns
  cells := hR.cells
  cellsOk p hp := let ⟨a, b, c, d⟩ := hR.cellsOk p hp; ⟨a, b, c.imp (put_ne (q.2.2.2 p hp)) id, d⟩
  locFree := ⟨hR.locFree.1, put_ne (Ne.symm q.2.1) hR.locFree.2.1, hR.locFree.2.2⟩
  fr := hR.fr.put q.1

theorem R.apartHidC (hR : R C (zs.put I o) σ z s) (hI : zs I = none) (hs : ∀ ov, o.data ≠ .cell ov) : z I = none ∧ Apart C zs σ I := by
  refine ⟨hR.rh.disj _ _ put_self, hI, ?_, ?_, ?_⟩
  · exact Ne.symm (put_none hR.locFree.2.1).1
  · intro h
    obtain ⟨p, hp, e⟩ := List.mem_map.mp h
    exact (put_none (hR.rh.hH p hp).2.2).1 e
  · intro p hp e
    obtain ⟨⟨ov, oc, e1, e2⟩, _⟩ := hR.cellsOk p hp
    obtain ⟨sl, e3, _⟩ := hR.rh.hzs I o put_self
    rw [← e, e1] at e3
    have e4 : oc = { o with slots := sl } := Option.some.inj e3
    rw [e4] at e2
    exact hs ov e2
theorem R.apartHid (hR : R C (zs.put I o) σ z s) (hI : zs I = none) (hs : Stays o) : z I = none ∧ Apart C zs σ I := hR.apartHidC hI hs.1

/-- the hidden object has changed, and new objects may stand behind -/
theorem R.iter (hR : R C (zs.put I o) σ z s) (hI : zs I = none) (hfr : FrOK C.outer zs) (hs : Stays o) {h' : Heap} {t : Nat} (k : Heap.ExtBut I s.heap h') (e : h'.get? I = some o') :
    R C (zs.put I o') σ z { s with heap := h', toks := t } := by
  obtain ⟨h0, q1, q2, q3, q4⟩ := hR.apartHid hI hs
  have ne : ∀ b p, z b = some p → b ≠ I := fun b p hb w => by rw [w, h0] at hb; cases hb
  refine ⟨⟨fun b p hb => k b p (ne b p hb) (hR.rh.hz b p hb), hR.rh.hbase, fun b p hb => ?_, fun b p hb => ?_, fun p hp => ?_, hR.rh.nodup, hR.rh.gens, hR.rh.os⟩, ?_, fun x v h1 h2 => ?_, fun p hp => ?_, ?_, hfr.put hI⟩
  · by_cases hb' : b = I
    · subst hb'; rw [put_self] at hb; cases hb; exact ⟨o'.slots, e, fun _ => rfl⟩
    · obtain ⟨sl, a, c⟩ := hR.rh.hzs b p (put_le_of hI (put_some hb hb'))
      exact ⟨sl, k _ _ hb' a, c⟩
  · by_cases hb' : b = I
    · subst hb'; exact h0
    · exact hR.rh.disj b p (put_le_of hI (put_some hb hb'))
  · obtain ⟨a, b, c⟩ := hR.rh.hH p hp
    obtain ⟨c1, c2⟩ := put_none c
    exact ⟨a.keep fun o ho => k _ _ c1 ho, b, put_ne c1 c2⟩
  · obtain ⟨m, ⟨ol, es, ep, a, b, c⟩, d⟩ := hR.ns
    exact ⟨m, ⟨ol, es, ep, k _ _ (Ne.symm q2) a, b, c⟩, d⟩
  · obtain ⟨c, val, a, ⟨oc, b1, b2⟩, d⟩ := hR.cells x v h1 h2
    exact ⟨c, val, a, ⟨oc, k _ _ (q4 _ (mem_of_lookup a)) b1, b2⟩, d⟩
  · obtain ⟨⟨ov, oc, b1, b2⟩, b, c, d⟩ := hR.cellsOk p hp
    exact ⟨⟨ov, oc, k _ _ (q4 p hp) b1, b2⟩, b, c.imp (fun c => put_ne (q4 p hp) (put_none c).2) id, d⟩
  · exact ⟨hR.locFree.1, put_ne (Ne.symm q2) (put_none hR.locFree.2.1).2, hR.locFree.2.2⟩
theorem R.unhideC (hR : R C (zs.put I o) σ z s) (hI : zs I = none) (hfr : FrOK C.outer zs) (hs : ∀ ov, o.data ≠ .cell ov) {h' : Heap} {t : Nat} (k : Heap.ExtBut I s.heap h') : R C zs σ z { s with heap := h', toks := t } := by
  obtain ⟨h0, q1, q2, q3, q4⟩ := hR.apartHidC hI hs
  have ne : ∀ b p, z b = some p → b ≠ I := fun b p hb w => by rw [w, h0] at hb; cases hb
  have nes : ∀ b p, zs b = some p → b ≠ I := fun b p hb w => by rw [w, hI] at hb; cases hb
  refine ⟨⟨fun b p hb => k b p (ne b p hb) (hR.rh.hz b p hb), hR.rh.hbase, fun b p hb => ?_, fun b p hb => ?_, fun p hp => ?_, hR.rh.nodup, hR.rh.gens, hR.rh.os⟩, ?_, fun x v h1 h2 => ?_, fun p hp => ?_, ?_, hfr⟩
  · obtain ⟨sl, a, c⟩ := hR.rh.hzs b p (put_le_of hI hb)
    exact ⟨sl, k _ _ (nes b p hb) a, c⟩
  · exact hR.rh.disj b p (put_le_of hI hb)
  · obtain ⟨a, b, c⟩ := hR.rh.hH p hp
    obtain ⟨c1, c2⟩ := put_none c
    exact ⟨a.keep fun o ho => k _ _ c1 ho, b, c2⟩
  · obtain ⟨m, ⟨ol, es, ep, a, b, c⟩, d⟩ := hR.ns
    exact ⟨m, ⟨ol, es, ep, k _ _ (Ne.symm q2) a, b, c⟩, d⟩
  · obtain ⟨c, val, a, ⟨oc, b1, b2⟩, d⟩ := hR.cells x v h1 h2
    exact ⟨c, val, a, ⟨oc, k _ _ (q4 _ (mem_of_lookup a)) b1, b2⟩, d⟩
  · obtain ⟨⟨ov, oc, b1, b2⟩, b, c, d⟩ := hR.cellsOk p hp
    exact ⟨⟨ov, oc, k _ _ (q4 p hp) b1, b2⟩, b, c.imp (fun c => (put_none c).2) id, d⟩
  · exact ⟨hR.locFree.1, (put_none hR.locFree.2.1).2, hR.locFree.2.2⟩
theorem R.unhide (hR : R C (zs.put I o) σ z s) (hI : zs I = none) (hfr : FrOK C.outer zs) (hs : Stays o) {h' : Heap} {t : Nat} (k : Heap.ExtBut I s.heap h') : R C zs σ z { s with heap := h', toks := t } := hR.unhideC hI hfr hs.1 k
end

/-! walking over something -/
noncomputable def ownIters : List String := ["enumerate", "zip", "dict_itemiterator", "dict_reverseitemiterator", "odict_iterator", "itertools.zip_longest", "itertools.pairwise"]

structure WalkOf (g : Gd) (A : Around) (S : Z → Led → Prop) (vs : List V) (J : Nat → Obj → Prop) : Prop where
  fields : ∀ i o, J i o → ∃ fs, o.data = .fields fs
  cls : ∀ i o, J i o → ∃ T, o.cls = .type T ∧ ownIters.contains T = false
  self : ∀ (s : Shared) I o Q E, J 0 o → s.heap.get? I = some o → Q (.ref I) s → wpAny (model g.prog g.w) A (pyIter (.ref I)) Q E s
  item : ∀ zs z H (s : Shared) I o i v Q E, J i o → vs[i]? = some v → RH g zs H z s → S z H → s.heap.get? I = some o →
    (∀ h' t o' val, h'.get? I = some o' → J (i + 1) o' → Heap.SameBut I s.heap h' → Rep z v val → Q (some val) { s with heap := h', toks := t }) → wpAny (model g.prog g.w) A (pyNext (.ref I)) Q E s
  fin : ∀ zs z H (s : Shared) I o Q E, J vs.length o → RH g zs H z s → S z H → s.heap.get? I = some o →
    (∀ h', Heap.ExtBut I s.heap h' → Q none { s with heap := h' }) → wpAny (model g.prog g.w) A (pyNext (.ref I)) Q E s

structure Walk (C : Cx) (v : V) (vs : List V) (S : Led → Prop) : Prop where
  start : ∀ z₀ x, Rep z₀ v x → ∃ J, (∀ A', A'.handled = none → WalkOf C.g A' (fun z H => Z.le z₀ z ∧ S H) vs J) ∧ ∀ zs z σ (s : Shared) Q E, Z.le z₀ z → R C zs σ z s → S σ.H →
    (∀ o, J 0 o → o.isFreed = false → Q (.ref s.heap.objs.size) { s with heap := s.heap.push o }) → wpAny C.M C.A (pyIter x) Q E s

section
variable {C : Cx}
theorem isList_of {s : Shared} {a : Addr} {items : List Value} {n : Nat} (e : s.heap.get? a = some (lstO items n)) : s.heap.IsList a items.toArray := ⟨_, e, rfl, n, rfl⟩
theorem isTuple_of {s : Shared} {a : Addr} {items : List Value} {n : Nat} (e : s.heap.get? a = some (tupO items n)) : s.heap.IsTuple a items.toArray := ⟨_, e, rfl, n, rfl⟩

/-- the items at the address, as the state tells -/
noncomputable def ListAt (g : Gd) (a : Addr) (vs : List V) (S : Z → Led → Prop) : Prop := ∀ zs z H (s : Shared), RH g zs H z s → S z H → ∃ items n, s.heap.get? a = some (lstO items n) ∧ RepL z vs items
theorem getRep {z : Z} {vs : List V} {xs : List Value} (r : RepL z vs xs) {i : Nat} {v : V} (h : vs[i]? = some v) : ∃ x, xs.toArray[i]? = some x ∧ Rep z v x := by
  obtain ⟨x, a, b⟩ := r.get h; exact ⟨x, by simpa using a, b⟩
theorem getEnd {z : Z} {vs : List V} {xs : List Value} (r : RepL z vs xs) : xs.toArray[vs.length]? = none := by
  simp [r.length]
theorem walkOf_list {g : Gd} {A : Around} (hA : A.handled = none) {a : Addr} {vs : List V} {S : Z → Led → Prop} (k : ListAt g a vs S) :
    WalkOf g A S vs fun i o => o.cls = .type "list_iterator" ∧ o.data = .fields #[.ref a, .int (i : Int) 0] where
  fields i o h := ⟨_, h.2⟩
  cls i o h := ⟨_, h.1, by decide⟩
  self s I o Q E h e q := wpAny_pyIter_listiter (l := a) (i := 0) ⟨o, e, h.1, h.2⟩ q
  item zs z H s I o i v Q E h hv r st e q := by
    obtain ⟨items, n, e1, rl⟩ := k zs z H s r st
    obtain ⟨x, hx, rx⟩ := getRep rl hv
    refine wpAny_pyNext_list_item (l := a) (i := i) ⟨o, e, h.1, h.2⟩ (isList_of e1) hx fun h' hit hs => ?_
    obtain ⟨o', p1, p2, p3⟩ := hit
    exact q h' s.toks o' x p1 ⟨p2, p3⟩ hs rx
  fin zs z H s I o Q E h r st e q := by
    obtain ⟨items, n, e1, rl⟩ := k zs z H s r st
    exact wpAny_pyNext_list_end hA (l := a) (i := vs.length) ⟨o, e, h.1, h.2⟩ (isList_of e1) (getEnd rl) q
theorem Walk.lst {vs : List V} : Walk C (.lst vs) vs (fun _ => True) where
  start z₀ x r := by
    cases r with
    | @lst _ a items n e hr =>
      refine ⟨_, fun A' hA => walkOf_list hA (a := a) fun zs z H s rh st => ⟨items, n, rh.hz _ _ (st.1 _ _ e), hr.mono st.1⟩, fun zs z σ s Q E hz hR _ q => ?_⟩
      exact wpAny_pyIter_list (isList_of (hR.rh.hz _ _ (hz _ _ e))) (q _ ⟨rfl, rfl⟩ rfl)
theorem Walk.led {a : Addr} {vs : List V} : Walk C (.ref a) vs (fun H => (a, AO.list vs) ∈ H) where
  start z₀ x r := by
    have rq := r.e; clear r; obtain ⟨_, rfl⟩ := rq
    refine ⟨_, fun A' hA => walkOf_list hA (a := a) fun zs z H s rh st => ?_, fun zs z σ s Q E hz hR st q => ?_⟩
    · obtain ⟨⟨items, n, e, rl⟩, _⟩ := rh.hH _ st.2
      exact ⟨items, n, e, rl⟩
    · obtain ⟨⟨items, n, e, rl⟩, _⟩ := hR.rh.hH _ st
      exact wpAny_pyIter_list (isList_of e) (q _ ⟨rfl, rfl⟩ rfl)
theorem Walk.tup {vs : List V} : Walk C (.tup vs) vs (fun _ => True) where
  start z₀ x r := by
    cases r with
    | @tup _ a items n e hr =>
      refine ⟨fun i o => o.cls = .type "tuple_iterator" ∧ o.data = .fields #[.ref a, .int (i : Int) 0], fun A' hA => ⟨fun i o h => ⟨_, h.2⟩, fun i o h => ⟨_, h.1, by decide⟩, ?_, ?_, ?_⟩, fun zs z σ s Q E hz hR _ q => ?_⟩
      · exact fun s I o Q E h e q => wpAny_pyIter_tupleiter (t := a) (i := 0) ⟨o, e, h.1, h.2⟩ q
      · intro zs z H s I o i v Q E h hv rh st e' q
        obtain ⟨x, hx, rx⟩ := getRep (hr.mono st.1) hv
        refine wpAny_pyNext_tuple_item (t := a) (i := i) ⟨o, e', h.1, h.2⟩ (isTuple_of (rh.hz _ _ (st.1 _ _ e))) hx fun h' hit hs => ?_
        obtain ⟨o', p1, p2, p3⟩ := hit
        exact q h' s.toks o' x p1 ⟨p2, p3⟩ hs rx
      · intro zs z H s I o Q E h rh st e' q
        exact wpAny_pyNext_tuple_end hA (t := a) (i := vs.length) ⟨o, e', h.1, h.2⟩ (isTuple_of (rh.hz _ _ (st.1 _ _ e))) (getEnd hr) q
      · exact wpAny_pyIter_tuple (isTuple_of (hR.rh.hz _ _ (hz _ _ e))) (q _ ⟨rfl, rfl⟩ rfl)
theorem Walk.str {l : List Nat} : Walk C (.txt false l) (l.map fun c => .txt false [c]) (fun _ => True) where
  start z₀ x r := by
    have rq := r.e; clear r; obtain ⟨t, rfl⟩ := rq
    have hget : ∀ {i : Nat} {v : V}, (l.map fun c => V.txt false [c])[i]? = some v → ∃ c, l[i]? = some c ∧ v = .txt false [c] := by
      intro i v h
      rw [List.getElem?_map] at h
      cases e : l[i]? with
      | none => rw [e] at h; cases h
      | some c => rw [e] at h; cases h; exact ⟨c, rfl, rfl⟩
    cases ha : (l.toArray).all (· < 128) with
    | true =>
      refine ⟨fun i o => o.cls = .type "str_ascii_iterator" ∧ o.data = .fields #[.str ⟨l.toArray⟩ t, .int (i : Int) 0], fun A' hA => ⟨fun i o h => ⟨_, h.2⟩, fun i o h => ⟨_, h.1, by decide⟩, ?_, ?_, ?_⟩, fun zs z σ s Q E hz hR _ q => ?_⟩
      · exact fun s I o Q E h e q => wpAny_pyIter_striter_ascii (x := ⟨l.toArray⟩) (t := t) (i := 0) ⟨o, e, h.1, h.2⟩ q
      · intro zs z H s I o i v Q E h hv rh st e' q
        obtain ⟨c, hc, rfl⟩ := hget hv
        refine wpAny_pyNext_ascii_item (x := ⟨l.toArray⟩) (t := t) (i := i) (c := c) ⟨o, e', h.1, h.2⟩ (by simpa using hc) fun h' hit hs => ?_
        obtain ⟨o', p1, p2, p3⟩ := hit
        exact q h' _ o' _ p1 ⟨p2, p3⟩ hs (.str [c] _)
      · intro zs z H s I o Q E h rh st e' q
        exact wpAny_pyNext_ascii_end hA (x := ⟨l.toArray⟩) (t := t) ⟨o, e', h.1, h.2⟩ (by simp) q
      · exact wpAny_pyIter_ascii (x := ⟨l.toArray⟩) ha (q _ ⟨rfl, rfl⟩ rfl)
    | false =>
      refine ⟨fun i o => o.cls = .type "str_iterator" ∧ o.data = .fields #[.str ⟨l.toArray⟩ t, .int (i : Int) 0], fun A' hA => ⟨fun i o h => ⟨_, h.2⟩, fun i o h => ⟨_, h.1, by decide⟩, ?_, ?_, ?_⟩, fun zs z σ s Q E hz hR _ q => ?_⟩
      · exact fun s I o Q E h e q => wpAny_pyIter_striter_wide (x := ⟨l.toArray⟩) (t := t) (i := 0) ⟨o, e, h.1, h.2⟩ q
      · intro zs z H s I o i v Q E h hv rh st e' q
        obtain ⟨c, hc, rfl⟩ := hget hv
        refine wpAny_pyNext_wide_item (x := ⟨l.toArray⟩) (t := t) (i := i) (c := c) ⟨o, e', h.1, h.2⟩ (by simpa using hc) fun h' hit hs => ?_
        obtain ⟨o', p1, p2, p3⟩ := hit
        exact q h' _ o' _ p1 ⟨p2, p3⟩ hs (.str [c] _)
      · intro zs z H s I o Q E h rh st e' q
        exact wpAny_pyNext_wide_end hA (x := ⟨l.toArray⟩) (t := t) ⟨o, e', h.1, h.2⟩ (by simp) q
      · exact wpAny_pyIter_wide (x := ⟨l.toArray⟩) ha (q _ ⟨rfl, rfl⟩ rfl)
end
end PL

end
section
open PySem PySem.Calls PyProof.Rows
set_option Elab.async false
set_option linter.unusedVariables false
set_option linter.unusedSimpArgs false
namespace PL

noncomputable def Lo (L L' : List (Str × V)) : Prop := ∀ x v, L.lookup x = some v → L'.lookup x = some v
structure Le (σ σ' : St) : Prop where
  loc : Lo σ.loc σ'.loc
  led : σ.H.Sublist σ'.H
theorem Lo.refl (L : List (Str × V)) : Lo L L := fun _ _ h => h
theorem Lo.set {L L' : List (Str × V)} {x : Str} {v : V} (h : Lo L L') : Lo (PL.setL L x v) (PL.setL L' x v) := by
  intro y u e
  rw [lookup_setL] at e ⊢
  by_cases k : y = x
  · rw [if_pos k] at e ⊢; exact e
  · rw [if_neg k] at e ⊢; exact h y u e
theorem Le.refl (σ : St) : Le σ σ := ⟨Lo.refl _, List.Sublist.refl _⟩
theorem TSs.le {C : Cx} {X : XP} {st : List Stmt} {Q : Fl → St → Prop} {σ σ' : St} (k : Le σ' σ) (h : TSs C st Q X σ') : TSs C st Q X σ := h.weaken k.loc k.led
/-- a target takes a value -/
noncomputable def TAs (C : Cx) (target : Expr) (v : V) (Q : St → Prop) (X : XP) (σ : St) : Prop := ∀ z₀ x, Rep z₀ v x → TT C z₀ (assign target C.env x) (fun _ _ σ' => Q σ') X σ
theorem TAs.name {C : Cx} {X : XP} {x : Str} {p : Pos} {v : V} {Q : St → Prop} {σ : St} (k : Stores C x) (h : Q ⟨setL σ.loc x v, σ.H⟩) : TAs C (.Name x p) v Q X σ := by
  intro z₀ val r
  rw [PySem.assign_Name]
  exact TT.at_ (TT.store k r fun _ _ => h)

theorem letOwned {M : Model} {A : Around} {E : Value → Shared → Prop} {target : Expr} {I : Addr} {v : Value} {s : Shared} {o : Obj} {Q : Unit → Shared → Prop} (e : s.heap.get? I = some o) (hc : ∃ T, o.cls = .type T ∧ ownIters.contains T = false) (h : Q () s) :
    wpAny M A (letOwnedTupleGo target (.ref I) v) Q E s := by
  obtain ⟨T, hT, hn⟩ := hc
  have go : ∀ a : Addr, wpAny M A (do
      let o ← load I
      match o.cls, o.data with
      | .type n, .fields vs =>
        if ["enumerate", "zip", "dict_itemiterator", "dict_reverseitemiterator", "odict_iterator", "itertools.zip_longest", "itertools.pairwise"].contains n && vs[0]? == some (rawInt a) then
          rule "for.unpacks-the-owned-tuple"
          updateField I 0 .none
      | _, _ => pure ()) Q E s := by
    intro a
    refine wpAny_bind (wpAny_load e ?_)
    rw [hT]
    obtain ⟨cls, dct, data, sl⟩ := o
    cases data with
    | fields vs =>
      have : (["enumerate", "zip", "dict_itemiterator", "dict_reverseitemiterator", "odict_iterator", "itertools.zip_longest", "itertools.pairwise"].contains T && vs[0]? == some (rawInt a)) = false := by
        rw [show ["enumerate", "zip", "dict_itemiterator", "dict_reverseitemiterator", "odict_iterator", "itertools.zip_longest", "itertools.pairwise"].contains T = false from hn]; rfl
      show wpAny M A (if _ = true then _ else _) Q E s
      rw [this]
      exact wpAny_pure h
    | _ => exact wpAny_pure h
  have key : wpAny M A (letOwnedTupleGo (.Tuple [] 0 default) (.ref I) v) Q E s := by
    cases v with
    | ref a => exact go a
    | _ => exact wpAny_pure h
  cases target with
  | Tuple ts k p => exact key
  | List ts p => exact key
  | _ => exact wpAny_pure h

section
variable {C : Cx} {X : XP} {σ : St}

noncomputable abbrev LoopQ (I : St → Prop) (Q : Fl → St → Prop) : Fl → St → Prop := fun f σ => match f with
  | .next => I σ
  | .cont => I σ
  | .brk => Q .next σ
  | .ret w => Q (.ret w) σ
inductive ForI (C : Cx) (zs z1 : Z) (I : Addr) (J : Nat → Obj → Prop) (Inv : Nat → St → Prop) (N n : Nat) (s' : Shared) : Prop
  | mk (i : Nat) (σ' : St) (z' : Z) (o : Obj) (hn : n = N - i) (hi : i ≤ N) (lz : Z.le z1 z') (r : R C (zs.put I o) σ' z' s') (hJ : J i o) (inv : Inv i σ')
inductive ForH (C : Cx) (target : Expr) (body orelse : List Stmt) (Q : Fl → St → Prop) (v : V) (σ1 : St) : Prop
  | mk (vs : List V) (S : Led → Prop) (w : Walk C v vs S) (Inv : Nat → St → Prop) (i0 : Inv 0 σ1) (iS : ∀ i σ, Inv i σ → S σ.H)
    (turn : ∀ i u σ, vs[i]? = some u → Inv i σ → TAs C target u (fun σ' => TSs C body (LoopQ (Inv (i + 1)) Q) X0 σ') X0 σ)
    (fin : ∀ σ, Inv vs.length σ → TSs C orelse Q X0 σ)
theorem TS.for_ {target iter : Expr} {body orelse : List Stmt} {pos : Pos} {Q : Fl → St → Prop} (hh : C.A.handled = none)
    (h : TE C iter (ForH C target body orelse Q) X σ)
    (hs : ∀ x, foldedSetIterable iter C.env x = pure x := by intro _; rfl) : TS C (.For target iter body orelse pos) Q X σ := by
  intro z₀ zs z s hz hR
  refine wpAny_For ?_ hs
  refine wpAny_mono (h z₀ zs z s hz hR) ?_ fun _ _ x => x
  rintro x s1 ⟨z1, σ1, l1, R1, v, rv, vs, S, W, Inv, i0, iS, turn, fin⟩
  obtain ⟨J, WO, st⟩ := W.start z1 x rv
  have WO := WO C.A hh
  refine st zs z1 σ1 s1 _ _ (Z.le_refl _) R1 (iS _ _ i0) fun o hJ hfr => ?_
  generalize hI : s1.heap.objs.size = I
  have zsI : zs I = none := R1.rh.fresh_zs (Nat.le_of_eq hI)
  have R2 : R C (zs.put I o) σ1 z1 { s1 with heap := s1.heap.push o } := by
    refine (R1.push' o).hideAt ?_ (R1.rh.fresh_z (Nat.le_of_eq hI)) (R1.apart_new (Nat.le_of_eq hI))
    rw [← hI]; exact Heap.get?_push_size _ hfr
  refine codeAny_loop' rfl (ForI C zs z1 I J Inv vs.length) (fun n s' hi => ?_) vs.length ⟨0, σ1, z1, o, rfl, Nat.zero_le _, Z.le_refl _, R2, hJ, i0⟩
  obtain ⟨i, σ', z', o', hn, hile, lz, R', hJ', inv⟩ := hi
  obtain ⟨fs, hfs⟩ := WO.fields _ _ hJ'
  have stay := Stays.fields hfs
  have hat := R'.rh.hidden put_self stay
  show wpAny _ _ ((forTurn target (.ref I) body orelse C.env).onRaise (fun x => do noteFrame x C.env; theTreesLotGoes x)) _ _ s'
  refine wpAny_noted ?_
  simp only [forTurn]
  refine wpAny_bind (wpAny_standAt (wpAny_bind (wpAny_onRaise ?_)))
  rcases Nat.lt_or_ge i vs.length with hlt | hge
  · have hv : vs[i]? = some vs[i] := List.getElem?_eq_getElem hlt
    refine WO.item _ _ _ s' I o' i vs[i] _ _ hJ' hv R'.rh ⟨lz, iS _ _ inv⟩ hat fun h' t o'' val e1 hJ'' hsb rv' => ?_
    have R'' : R C (zs.put I o'') σ' z' { s' with heap := h', toks := t } := R'.iter zsI hR.fr stay hsb.extBut e1
    refine wpAny_bind (letOwned e1 (WO.cls _ _ hJ'') ?_)
    refine wpAny_bind (wpAny_mono (turn i _ σ' hv inv z' val rv' _ _ _ (Z.le_refl _) R'') ?_ fun _ _ x => x.absurd)
    rintro ⟨⟩ s3 ⟨z3, σ3, l3, R3, k3⟩
    refine wpAny_bind (wpAny_mono (k3 z3 _ _ _ (Z.le_refl _) R3) ?_ fun _ _ x => x.absurd)
    rintro f s4 ⟨z4, σ4, l4, R4, fl, rf, k4⟩
    have lz' := Z.le_trans (Z.le_trans lz l3) l4
    obtain ⟨fs', hfs'⟩ := WO.fields _ _ hJ''
    have again : Inv (i + 1) σ4 → ∃ m, m < n ∧ ForI C zs z1 I J Inv vs.length m s4 :=
      fun k4 => ⟨vs.length - (i + 1), by omega, i + 1, σ4, z4, o'', rfl, by omega, lz', R4, hJ'', k4⟩
    have out := R4.unhide zsI hR.fr (Stays.fields hfs') (t := s4.toks) (h' := s4.heap) fun b o _ e => e
    cases rf with
    | next => exact wpAny_pure (.inl ⟨rfl, again k4⟩)
    | cont => exact wpAny_pure (.inl ⟨rfl, again k4⟩)
    | brk => exact wpAny_pure ⟨z4, σ4, Z.le_trans l1 lz', out, .next, .next, k4⟩
    | ret rw' => exact wpAny_pure ⟨z4, σ4, Z.le_trans l1 lz', out, .ret _, .ret rw', k4⟩
  · have he : i = vs.length := by omega
    subst he
    refine WO.fin _ _ _ s' I o' _ _ hJ' R'.rh ⟨lz, iS _ _ inv⟩ hat fun h' hx => ?_
    refine wpAny_pure (.inr ⟨rfl, codeAny_block ?_⟩)
    have R'' : R C zs σ' z' { s' with heap := h' } := R'.unhide zsI hR.fr stay hx
    refine wpAny_mono (fin σ' inv z' zs z' _ (Z.le_refl _) R'') ?_ fun _ _ x => x.absurd
    rintro f s4 ⟨z4, σ4, l4, R4, q⟩
    exact ⟨z4, σ4, Z.le_trans l1 (Z.le_trans lz l4), R4, q⟩

end
end PL

end
section
open PySem PySem.Calls PyProof.Rows
set_option Elab.async false
set_option linter.unusedVariables false
set_option linter.unusedSimpArgs false
namespace PL

noncomputable def relabelS (scope sc : Scope) : Scope :=
  { scope with names := scope.names.map fun (n, k) => if (k == .free && sc.kind == .function && sc.names.lookup n == some .cell) then (n, .cell) else (n, k) }
theorem relabel_eq {scope sc : Scope} {env : Env} (h : env.scope = sc) : relabel scope env = relabelS scope sc := by subst h; rfl

/-- the cells that a comprehension takes over -/
noncomputable def closOf : List (Str × NameKind) → List (Str × Addr) → List (Str × Addr) → List (Str × Addr)
  | [], _, acc => acc
  | (n, k) :: r, cells, acc => closOf r cells (if k == .free then (n, (cells.lookup n).getD 0) :: acc else acc)
theorem closureFor_closOf {scope : Scope} {env : Env} (h : ∀ x ∈ scope.names, x.2 = .free → ∃ c, env.cells.lookup x.1 = some c) : closureFor scope env = pure (closOf scope.names env.cells []) := by
  unfold closureFor
  have key : ∀ (l : List (Str × NameKind)) (acc : List (Str × Addr)), (∀ x ∈ l, x.2 = .free → ∃ c, env.cells.lookup x.1 = some c) →
      (forIn l acc fun x r => match x with | (name, kind) => if kind == .free then do let a ← cellOf env name; pure (ForInStep.yield ((name, a) :: r)) else pure (ForInStep.yield r) : Sem _) = pure (closOf l env.cells acc) := by
    intro l
    induction l with
    | nil => intro acc _; rfl
    | cons y r ih =>
      intro acc hl
      obtain ⟨n, k⟩ := y
      rw [List.forIn_cons]
      cases hk : (k == NameKind.free) with
      | true =>
        obtain ⟨c, hc⟩ := hl (n, k) List.mem_cons_self (by simpa using hk)
        have : cellOf env n = pure c := by unfold cellOf; rw [hc]
        simp only [hk, if_true, this, pure_bind]
        rw [ih _ fun x hx => hl x (List.mem_cons_of_mem _ hx)]
        simp [closOf, hk, hc]
      | false =>
        simp only [hk, Bool.false_eq_true, if_false, pure_bind]
        rw [ih _ fun x hx => hl x (List.mem_cons_of_mem _ hx)]
        simp [closOf, hk]
  have := key scope.names [] h
  simp only [bind_pure]
  exact this
theorem closOf_mem : ∀ (l : List (Str × NameKind)) (cells acc : List (Str × Addr)) (p : Str × Addr), p ∈ closOf l cells acc → p ∈ acc ∨ ((p.1, NameKind.free) ∈ l ∧ p.2 = (cells.lookup p.1).getD 0)
  | [], _, _, _, h => .inl h
  | (n, k) :: r, cells, acc, p, h => by
    unfold closOf at h
    rcases closOf_mem r cells _ p h with q | ⟨h1, h2⟩
    · cases hk : (k == NameKind.free) with
      | true =>
        rw [hk, if_pos rfl] at q
        have hk : k = .free := by simpa using hk
        subst hk
        rcases List.mem_cons.mp q with q | q
        · subst q; exact .inr ⟨List.mem_cons_self, rfl⟩
        · exact .inl q
      | false =>
        rw [hk, if_neg (by decide)] at q
        exact .inl q
    · exact .inr ⟨List.mem_cons_of_mem _ h1, h2⟩
theorem closOf_keep : ∀ (l : List (Str × NameKind)) (cells acc : List (Str × Addr)) (x : Str) (c : Addr), acc.lookup x = some c → x ∉ l.map (·.1) → (closOf l cells acc).lookup x = some c
  | [], _, _, _, _, h, _ => h
  | (n, k) :: r, cells, acc, x, c, h, hn => by
    rw [List.map_cons, List.mem_cons, not_or] at hn
    unfold closOf
    refine closOf_keep r cells _ x c ?_ hn.2
    split
    · rw [List.lookup_cons, beq_eq_false_iff_ne.mpr hn.1]; exact h
    · exact h
theorem closOf_lookup : ∀ (l : List (Str × NameKind)) (cells acc : List (Str × Addr)) (x : Str) (c : Addr), (l.map (·.1)).Nodup → (x, NameKind.free) ∈ l → cells.lookup x = some c → (closOf l cells acc).lookup x = some c
  | [], _, _, _, _, _, h, _ => by cases h
  | (n, k) :: r, cells, acc, x, c, hn, h, hc => by
    rw [List.map_cons, List.nodup_cons] at hn
    unfold closOf
    rcases List.mem_cons.mp h with h | h
    · cases h
      refine closOf_keep r cells _ _ c ?_ hn.1
      simp [hc]
    · exact closOf_lookup r cells _ x c hn.2 h hc
theorem closOf_pair : ∀ (l : List (Str × NameKind)) (cells acc : List (Str × Addr)), (l.map (·.1)).Nodup → acc.Pairwise (fun x y => x.1 ≠ y.1) → (∀ p ∈ acc, p.1 ∉ l.map (·.1)) → (closOf l cells acc).Pairwise (fun x y => x.1 ≠ y.1)
  | [], _, _, _, h, _ => h
  | (n, k) :: r, cells, acc, hn, h, hd => by
    rw [List.map_cons, List.nodup_cons] at hn
    unfold closOf
    refine closOf_pair r cells _ hn.2 ?_ ?_
    · split
      · refine List.pairwise_cons.mpr ⟨fun p hp e => hd p hp ?_, h⟩
        rw [List.map_cons, ← e]; exact List.mem_cons_self
      · exact h
    · intro p hp
      split at hp
      · rcases List.mem_cons.mp hp with e | hp
        · subst e; exact hn.1
        · exact fun q => hd p hp (by rw [List.map_cons]; exact List.mem_cons_of_mem _ q)
      · exact fun q => hd p hp (by rw [List.map_cons]; exact List.mem_cons_of_mem _ q)

section
variable {C : Cx} {zs z : Z} {σ : St} {s : Shared} {I : Addr} {o o' : Obj}
theorem RH.hideAt {g : Gd} {H : Led} (r : RH g zs H z s) (e : s.heap.get? I = some o) (h0 : z I = none) (h1 : zs I = none) (h2 : I ∉ H.map (·.1)) : RH g (zs.put I o) H z s where
  hz := r.hz
  hbase := r.hbase
  hzs b p h := by
    by_cases hb : b = I
    · subst hb; rw [put_self] at h; cases h; exact ⟨o.slots, e, fun _ => rfl⟩
    · exact r.hzs b p (put_some h hb)
  disj b p h := by
    by_cases hb : b = I
    · subst hb; exact h0
    · exact r.disj b p (put_some h hb)
  hH p hp := let ⟨a, b, c⟩ := r.hH p hp; ⟨a, b, put_ne (fun w => h2 (w ▸ List.mem_map_of_mem (f := (·.1)) hp)) c⟩
  nodup := r.nodup
  gens := r.gens
  os := r.os
theorem RH.unhide {g : Gd} {H : Led} (r : RH g (zs.put I o) H z s) (h1 : zs I = none) : RH g zs H z s where
  hz := r.hz
  hbase := r.hbase
  hzs b p h := r.hzs b p (put_le_of h1 h)
  disj b p h := r.disj b p (put_le_of h1 h)
  hH p hp := let ⟨a, b, c⟩ := r.hH p hp; ⟨a, b, (put_none c).2⟩
  nodup := r.nodup
  gens := r.gens
  os := r.os
theorem Z.put_comm {a b : Addr} (h : a ≠ b) (p q : Obj) : (zs.put a p).put b q = (zs.put b q).put a p := by
  funext c
  unfold Z.put
  by_cases h1 : c = b
  · subst h1; rw [if_pos rfl, if_neg (Ne.symm h), if_pos rfl]
  · rw [if_neg h1]
    by_cases h2 : c = a
    · rw [if_pos h2, if_pos h2]
    · rw [if_neg h2, if_neg h2, if_neg h1]

theorem R.frames (hR : R C zs σ z s) : ∃ fr, C.A.frames = some fr ∧ ∀ h : Heap, (∀ b o, s.heap.get? b = some o → h.get? b = some o) → FrOK fr (hid C zs h) := by
  have ho : ∀ h : Heap, (∀ b o, s.heap.get? b = some o → h.get? b = some o) → FrOK C.outer (hid C zs h) := by
    intro h hk
    refine ⟨fun e he => ?_⟩
    obtain ⟨a, L, o, b, c, d⟩ := hR.fr.ok e he
    have c' := hid_of hR c
    refine ⟨a, L, o, b, ?_, d⟩
    unfold hid at c' ⊢
    split at c'
    · rename_i hc; rw [if_pos hc]; exact hk _ _ c'
    · rename_i hc; rw [if_neg hc]; exact c'
  rcases C.hframes with ⟨a, b⟩ | a
  · refine ⟨_, a, fun h hk => ⟨fun e he => ?_⟩⟩
    rcases List.mem_cons.mp he with rfl | he
    · obtain ⟨m, ⟨oL, es, ep, hL, hdt, _⟩, _⟩ := hR.ns
      refine ⟨by rw [C.hk]; decide, _, oL, b, ?_, _, _, hdt⟩
      unfold hid; rw [if_pos (.inl rfl)]; exact hk _ _ hL
    · exact (ho h hk).ok e he
  · exact ⟨_, a, ho⟩
end

noncomputable def TIfs (C : Cx) (ifs : List Expr) (Q : Bool → St → Prop) (X : XP) (σ : St) : Prop := ∀ z₀, TT C z₀ (forIn ifs true fun c r => if r = true then do let ok ← isTrue c C.env (eval c C.env); pure (ForInStep.yield ok) else pure (ForInStep.yield r)) (fun _ b σ' => Q b σ') X σ
theorem TIfs.nil {C : Cx} {X : XP} {σ : St} {Q : Bool → St → Prop} (h : Q true σ) : TIfs C [] Q X σ := fun z₀ => TT.pure fun _ _ => h
/-- what one turn of a list comprehension adds -/
noncomputable def CTurn (C : Cx) (target : Expr) (ifs : List Expr) (elt : Expr) (u : V) (out : Option V) (X : XP) (σ : St) : Prop :=
  TAs C target u (fun σ1 => TIfs C ifs (fun ok σ2 => if ok then TE C elt (fun v σ3 => out = some v ∧ Le σ σ3) X σ2 else out = none ∧ Le σ σ2) X σ1) X σ

noncomputable def addO (l : List V) : Option V → List V
  | none => l
  | some v => l ++ [v]

structure CompOK (scope sc : Scope) : Prop where
  kind : scope.kind = .function
  nocell : ∀ x ∈ scope.names, x.2 ≠ .cell
  nodup : (scope.names.map (·.1)).Nodup
  free : ∀ x ∈ scope.names, x.2 = .free → sc.names.lookup x.1 = some .cell
  out : sc.kind = .function

theorem lookup_of_nodup {α β : Type} [BEq α] [LawfulBEq α] : ∀ {l : List (α × β)} {p : α × β}, (l.map (·.1)).Nodup → p ∈ l → l.lookup p.1 = some p.2
  | [], _, _, h => by cases h
  | (k, c) :: r, p, hn, h => by
    rw [List.map_cons, List.nodup_cons] at hn
    rw [List.lookup_cons]
    rcases List.mem_cons.mp h with e | h
    · subst e; simp
    · have : (p.1 == k) = false := beq_eq_false_iff_ne.mpr fun e => hn.1 (e ▸ List.mem_map_of_mem (f := (·.1)) h)
      rw [this]; exact lookup_of_nodup hn.2 h
theorem mem_of_lookup' {α β : Type} [BEq α] [LawfulBEq α] : ∀ {l : List (α × β)} {x : α} {b : β}, l.lookup x = some b → (x, b) ∈ l
  | [], _, _, h => by cases h
  | (k, c) :: r, x, b, h => by
    rw [List.lookup_cons] at h
    cases e : (x == k) with
    | true => rw [e] at h; cases h; rw [eq_of_beq e]; exact List.mem_cons_self
    | false => rw [e] at h; exact List.mem_cons_of_mem _ (mem_of_lookup' h)
theorem relabel_keys (scope sc : Scope) : (relabelS scope sc).names.map (·.1) = scope.names.map (·.1) := by
  unfold relabelS
  simp only [List.map_map]
  refine List.map_congr_left fun x _ => ?_
  obtain ⟨n, k⟩ := x
  simp only [Function.comp]
  split <;> rfl
theorem relabel_cell {scope sc : Scope} (K : CompOK scope sc) {x : Str} (h : (relabelS scope sc).names.lookup x = some .cell) : (x, NameKind.free) ∈ scope.names := by
  have := mem_of_lookup' h
  unfold relabelS at this
  obtain ⟨⟨n, k⟩, hp, e⟩ := List.mem_map.mp this
  simp only at e
  split at e
  · rename_i hc
    cases e
    simp only [Bool.and_eq_true, beq_iff_eq] at hc
    rw [← hc.1.1]; exact hp
  · cases e
    exact absurd rfl (K.nocell _ hp)
end PL

end
section
open PySem PySem.Calls PyProof.Rows
set_option Elab.async false
set_option linter.unusedVariables false
set_option linter.unusedSimpArgs false
namespace PL

theorem relabel_free {scope sc : Scope} (K : CompOK scope sc) {x : Str} (h : (x, NameKind.free) ∈ scope.names) : (relabelS scope sc).names.lookup x = some .cell := by
  have hm : (x, NameKind.cell) ∈ (relabelS scope sc).names := by
    unfold relabelS
    refine List.mem_map.mpr ⟨(x, .free), h, ?_⟩
    simp [K.out, K.free _ h rfl]
  exact lookup_of_nodup (p := (x, NameKind.cell)) (by rw [relabel_keys]; exact K.nodup) hm

theorem filterMap_take {α : Type} (f : α → Option V) (xs : List α) (i : Nat) (x : α) (h : xs[i]? = some x) : (xs.take (i + 1)).filterMap f = addO ((xs.take i).filterMap f) (f x) := by
  rw [List.take_add_one, h, List.filterMap_append]
  cases e : f x <;> simp [addO, e]

section
variable {C : Cx} {X : XP} {σ : St}

inductive CompI (C' : Cx) (zz z1 : Z) (I D : Addr) (J : Nat → Obj → Prop) (N : Nat) (F : Nat → List V) (σ0 : St) (m : Nat) (s' : Shared) : Prop
  | mk (i : Nat) (z' : Z) (σ' : St) (o : Obj) (items : List Value) (k : Nat) (hm : m = N - i) (hi : i ≤ N) (lz : Z.le z1 z') (r : R C' ((zz.put I o).put D (lstO items k)) σ' z' s') (le : Le σ0 σ') (hJ : J i o) (rl : RepL z' (F i) items)
inductive CompH (C : Cx) (g : Gd) (n : Nat) (sc scope : Scope) (target : Expr) (ifs : List Expr) (elt : Expr) (K : St → List V → Led → Prop) (v : V) (σ1 : St) : Prop
  | mk (α : Type) (xs : List α) (φ : α → V) (f : α → Option V) (L : List (Str × V)) (H0 : Led) (S : Led → Prop) (w : Walk C v (xs.map φ) S) (hS : ∀ H', H0.Sublist H' → S H') (hH : H0.Sublist σ1.H)
    (hL : ∀ x u, L.lookup x = some u → σ1.loc.lookup x = some u ∧ (x, NameKind.free) ∈ scope.names) (hl : xs.length ≤ 16777216)
    (turn : ∀ C', In C' g n (relabelS scope sc) → ∀ x ∈ xs, CTurn C' target ifs elt (φ x) (f x) X0 ⟨L, H0⟩) (k : K σ1 (xs.filterMap f) H0)
theorem TT.compCore {g : Gd} {n : Nat} {sc scope : Scope} {elt target iter : Expr} {ifs : List Expr} {pos : Pos} {z₀ : Z} {Q : Z → Value → St → Prop} {use : Option (Value → Sem Unit)} (hIn : In C g n sc) (K : CompOK scope sc)
    (h : TE C iter (CompH C g n sc scope target ifs elt fun σ1 ys H0 =>
      (∀ zs' z' s' a items k Lc oL, R C (zs'.put Lc oL) ⟨σ1.loc, H0⟩ z' s' → zs' Lc = none → FrOK C.outer zs' → (∀ ov, oL.data ≠ .cell ov) → (∃ m, s'.heap.Ns Lc m) → s'.heap.get? Lc = some oL → s'.heap.get? a = some (lstO items k) → z' a = none → Apart C (zs'.put Lc oL) ⟨σ1.loc, H0⟩ a → RepL z' (ys) items →
        ∀ (Qf : Value → Shared → Prop) E, (∀ v s'' z'' σ'', Z.le z' z'' → R C zs' σ'' z'' s'' → Q z'' v σ'' → Qf v s'') → compPost C.M C.A E use Qf (.ref a) Lc (.ok .next) s')) X σ)
    (hs : ∀ x, foldedSetIterable iter C.env x = Pure.pure x := by intro _; rfl) : TT C z₀ (comprehension (.ListComp elt [⟨target, iter, ifs, 0⟩] scope pos) scope C.env (firstIterPos [⟨target, iter, ifs, 0⟩] pos) (newList []) (firstAsync [⟨target, iter, ifs, 0⟩]) (firstIter [⟨target, iter, ifs, 0⟩] C.env) use) Q X σ := by
  intro zs z s hz hR
  have hclo : ∀ x ∈ scope.names, x.2 = .free → ∃ c, C.env.cells.lookup x.1 = some c := fun x hx hf => hIn.cell _ (K.free x hx hf)
  have hnames : ∀ x ∈ scope.names, x.2 = .local → scope.names.lookup x.1 = some .local := fun x hx hl => by rw [← hl]; exact lookup_of_nodup K.nodup hx
  refine wpAny_comprehension_free (g := ⟨target, iter, ifs, 0⟩) (gs := []) rfl hs (closureFor_closOf hclo) K.kind hnames ?_
  show wpAny _ _ (eval iter C.env) _ _ s
  refine wpAny_mono (h z₀ zs z s hz hR) ?_ fun _ _ x => x
  rintro x s1 ⟨z1, σ1, l1, R1, v, rv, α, xs, φ, f, L, H0, S, W, hS, hH0, hL, hlen, turn, fin⟩
  obtain ⟨J, WO, st⟩ := W.start z1 x rv
  have WO := WO C.A hIn.calm
  refine st zs z1 σ1 s1 _ _ (Z.le_refl _) R1 (hS _ hH0) fun o hJ hfr => ?_
  refine wpAny_newList ?_ (by simp)
  refine wpAny_newFunctionEnv K.nocell (by intro x hx; simp at hx) (fun h4 hns hsb => ?_) K.kind
  have szI : (s1.heap.push o).objs.size = s1.heap.objs.size + 1 := Heap.size_push ..
  have szD : ((s1.heap.push o).push { cls := .type "list", data := .seq ([] : List Value).toArray }).objs.size = s1.heap.objs.size + 2 := by rw [Heap.size_push, szI]
  dsimp only at hns hsb ⊢
  rw [szD] at hns hsb ⊢
  rw [szI]
  have lo : ∀ b o', b < s1.heap.objs.size + 2 → ((s1.heap.push o).push { cls := .type "list", data := .seq ([] : List Value).toArray }).get? b = some o' → h4.get? b = some o' := fun b o' hb e =>
    (hsb.2 b (Nat.ne_of_lt hb)).trans (Heap.get?_push_of_some _ e)
  have eI : h4.get? s1.heap.objs.size = some o := lo _ _ (by (first | lia | omega)) (Heap.get?_push_of_some _ (Heap.get?_push_size _ hfr))
  have eD : h4.get? (s1.heap.objs.size + 1) = some (lstO [] 0) := lo _ _ (by (first | lia | omega)) (by have := Heap.get?_push_size (h := s1.heap.push o) (o := lstO [] 0) rfl; rw [szI] at this; exact this)
  have old : ∀ b o', s1.heap.get? b = some o' → h4.get? b = some o' := fun b o' e => lo _ _ (Nat.lt_of_lt_of_le (Heap.lt_size e) (Nat.le_add_right _ 2)) (Heap.get?_push_of_some _ (Heap.get?_push_of_some _ e))
  have fz : ∀ a, s1.heap.objs.size ≤ a → z1 a = none := fun a ha => R1.rh.fresh_z ha
  have fa : ∀ a, s1.heap.objs.size ≤ a → Apart C zs ⟨σ1.loc, H0⟩ a := fun a ha => let ⟨a1, a2, a3, a4⟩ := R1.apart_new ha; ⟨a1, a2, fun e => a3 ((hH0.map _).subset e), a4⟩
  have R4 : R C zs ⟨σ1.loc, H0⟩ z1 { s1 with heap := h4, toks := s1.toks + ([] : List (Str × Value)).length } := (R1.grow old).weaken (fun _ _ h => h) hH0
  generalize hs4 : ({ s1 with heap := h4, toks := s1.toks + ([] : List (Str × Value)).length } : Shared) = s4 at R4 ⊢
  have hh4 : s4.heap = h4 := by rw [← hs4]
  generalize hLc : s1.heap.objs.size + 2 = Lc at *
  generalize hD : s1.heap.objs.size + 1 = D at *
  generalize hI : s1.heap.objs.size = I at *
  have hID : I ≠ D := by (first | lia | omega)
  have hIL : Lc ≠ I := by (first | lia | omega)
  have hDL : Lc ≠ D := by (first | lia | omega)
  obtain ⟨fr, hfrA, hfrOK⟩ := R4.frames
  have fr0 : FrOK fr (hid C zs s4.heap) := hfrOK _ fun _ _ e => e
  have hidn : ∀ a, I ≤ a → hid C zs s4.heap a = none := fun a ha => by
    obtain ⟨a1, a2, a3, a4⟩ := fa a ha
    exact hid_none a2 (fun e => by obtain ⟨p, hp, e⟩ := List.mem_map.mp e; exact a4 p hp e) a1
  have r0 := R4.hide
  have rI := r0.hideAt (by rw [hh4]; exact eI) (fz I (Nat.le_refl _)) (hidn I (Nat.le_refl _)) (fa I (Nat.le_refl _)).2.2.1
  have rD := rI.hideAt (by rw [hh4]; exact eD) (fz D (by (first | lia | omega))) (put_ne (Ne.symm hID) (hidn D (by (first | lia | omega)))) (fa D (by (first | lia | omega))).2.2.1
  let C' : Cx := {
    g := C.g, A := C.A, env := compEnvC scope (closOf scope.names C.env.cells []) Lc C.env, outer := fr, n := C.n
    ro := scope.names.map (·.1)
    hk := K.kind
    hglob := C.hglob, hbuilt := C.hbuilt, hdep := C.hdep, hunits := C.hunits, hframes := .inr hfrA
    apart := by
      have hp := closOf_pair scope.names C.env.cells [] K.nodup List.Pairwise.nil (fun _ h => by cases h)
      have hmem : ∀ p ∈ closOf scope.names C.env.cells [], p ∈ C.env.cells := by
        intro p hp
        rcases closOf_mem _ _ _ p hp with h | ⟨h1, h2⟩
        · cases h
        · obtain ⟨c, hc⟩ := hclo _ h1 rfl
          have hc : C.env.cells.lookup p.1 = some c := hc
          rw [hc] at h2
          have := mem_of_lookup' hc
          have e : p = (p.1, c) := by rw [← show p.2 = c from h2]
          rw [e]; exact this
      have : ∀ l : List (Str × Addr), l.Pairwise (fun x y => x.1 ≠ y.1) → (∀ p ∈ l, p ∈ C.env.cells) → l.Pairwise (fun x y => x.2 ≠ y.2) := by
        intro l hl hm
        refine List.Pairwise.imp_of_mem ?_ hl
        intro a b ha hb hab e
        refine hab (name_of_addr C.apart (c := b.2) ?_ (hm b hb))
        rw [← e]; exact hm a ha
      exact this _ hp hmem }
  have hcell' : ∀ p ∈ closOf scope.names C.env.cells [], (p.1, NameKind.free) ∈ scope.names ∧ p ∈ C.env.cells := by
    intro p hp
    rcases closOf_mem _ _ _ p hp with h | ⟨h1, h2⟩
    · cases h
    · obtain ⟨c, hc⟩ := hclo _ h1 rfl
      have hc : C.env.cells.lookup p.1 = some c := hc
      rw [hc] at h2
      have := mem_of_lookup' hc
      have e : p = (p.1, c) := by rw [← show p.2 = c from h2]
      exact ⟨h1, by rw [e]; exact this⟩
  have hIn' : In C' g n (relabelS scope sc) := ⟨hIn.g, hIn.n, fun x => by show (relabel scope C.env).names.lookup x = _; rw [relabel_eq hIn.fn], fun x hx => by
      have hm := relabel_cell K hx
      obtain ⟨c, hc⟩ := hclo _ hm rfl
      exact ⟨c, closOf_lookup _ _ _ _ _ K.nodup hm hc⟩, hIn.calm, relabel_eq hIn.fn, hIn.gl⟩
  have cellNe : ∀ p ∈ C.env.cells, p.2 < I := by
    intro p hp
    obtain ⟨⟨ov, ic⟩, _⟩ := R1.cellsOk p hp
    exact hI ▸ ic.lt
  have kindL : ∀ x u, L.lookup x = some u → C'.env.kindOf x = some .cell := fun x u hx => by
    rw [hIn'.kind]; exact relabel_free K (hL x u hx).2
  have R0 : R C' (((hid C zs s4.heap).put I o).put D (lstO [] 0)) ⟨L, H0⟩ z1 s4 := by
    refine ⟨rD, ⟨_, by rw [hh4]; exact hns, fun x u hx hk => ?_⟩, fun x u hx hk => ?_, fun p hp => ?_, ⟨fz _ (by show I ≤ Lc; (first | lia | omega)), put_ne hDL (put_ne hIL (hidn Lc (by (first | lia | omega)))), (fa Lc (by (first | lia | omega))).2.2.1⟩, ?_⟩
    · rw [kindL x u hx] at hk; cases hk
    · obtain ⟨h1, h2⟩ := hL x u hx
      have hk1 : C.env.kindOf x = some .cell := (hIn.kind x).trans (K.free _ h2 rfl)
      obtain ⟨c, val, e1, e2, e3⟩ := R4.cells x u h1 (by rw [hk1]; rfl)
      exact ⟨c, val, closOf_lookup _ _ _ _ _ K.nodup h2 e1, e2, e3⟩
    · obtain ⟨h1, h2⟩ := hcell' p hp
      obtain ⟨a, b, _, d, e⟩ := R4.cellsOk p h2
      exact ⟨a, b, .inr (List.mem_map_of_mem (f := (·.1)) h1), Nat.ne_of_lt (Nat.lt_of_lt_of_le (cellNe p h2) (show I ≤ Lc by (first | lia | omega))), e⟩
    · exact (fr0.put (hidn I (Nat.le_refl _))).put (put_ne (Ne.symm hID) (hidn D (by (first | lia | omega))))
  have hI0 := hidn I (Nat.le_refl _)
  have hD0 := hidn D (by (first | lia | omega))
  have loop : codeAny C.M C.A (.compLoop (.ListComp elt [⟨target, iter, ifs, 0⟩] scope pos) 0 (.ref I) (.ref D) C'.env)
      (compPost C.M C.A (PX C zs z X) use (Post C zs z Q) (.ref D) Lc) s4 := by
    generalize hRes : compPost C.M C.A (PX C zs z X) use (Post C zs z Q) (.ref D) Lc = Res
    refine codeAny_loop rfl (CompI C' (hid C zs s4.heap) z1 I D J xs.length (fun i => (xs.take i).filterMap f) ⟨L, H0⟩)
      (fun m s' hi => ?_) xs.length ⟨0, z1, _, o, [], 0, rfl, Nat.zero_le _, Z.le_refl _, R0, Le.refl _, hJ, by simpa using RepL.nil⟩
    obtain ⟨i, z', σ', o', items, k, hm, hile, lz, R', le', hJ', rl⟩ := hi
    obtain ⟨fs, hfs⟩ := WO.fields _ _ hJ'
    have stay := Stays.fields hfs
    show wpAny _ _ ((compTurn (.ListComp elt [⟨target, iter, ifs, 0⟩] scope pos) 0 (.ref I) (.ref D) C'.env).onRaise (fun x => do noteFrame x C'.env; theTreesLotGoes x)) _ _ s'
    refine wpAny_noted ?_
    rw [compTurn_list]
    have R1' : R C' (((hid C zs s4.heap).put D (lstO items k)).put I o') σ' z' s' := by rw [Z.put_comm (Ne.symm hID)]; exact R'
    have hat := R1'.rh.hidden put_self stay
    refine wpAny_bind (wpAny_standAt (wpAny_bind ?_))
    rcases Nat.lt_or_ge i xs.length with hlt | hge
    · have hx : xs[i]? = some xs[i] := List.getElem?_eq_getElem hlt
      have hv : (xs.map φ)[i]? = some (φ xs[i]) := by rw [List.getElem?_map, hx]; rfl
      refine WO.item _ _ _ s' I o' i _ _ _ hJ' hv R1'.rh ⟨lz, hS _ le'.led⟩ hat fun h' t o'' val e1 hJ'' hsb rv' => ?_
      have R2 := (R1'.iter (put_ne hID hI0) (fr0.put hD0) stay hsb.extBut e1 (t := t)).weaken (σ' := ⟨L, H0⟩) le'.loc le'.led
      refine wpAny_bind (letOwned e1 (WO.cls _ _ hJ'') ?_)
      refine wpAny_bind (wpAny_mono (turn C' hIn' _ (List.getElem_mem hlt) z' val rv' _ _ _ (Z.le_refl _) R2) ?_ fun _ _ x => x.absurd)
      rintro ⟨⟩ s3 ⟨z3, σ3, l3, R3, k3⟩
      refine wpAny_bind (wpAny_mono (k3 z3 _ _ _ (Z.le_refl _) R3) ?_ fun _ _ x => x.absurd)
      rintro ok s5 ⟨z5, σ5, l5, R5, k5⟩
      obtain ⟨fs', hfs'⟩ := WO.fields _ _ hJ''
      cases ok with
      | false =>
        obtain ⟨hout, hle⟩ := k5
        refine wpAny_pure ⟨rfl, xs.length - (i + 1), by (first | lia | omega), i + 1, z5, σ5, o'', items, k, rfl, by (first | lia | omega), Z.le_trans lz (Z.le_trans l3 l5), ?_, hle, hJ'', ?_⟩
        · rw [Z.put_comm hID]; exact R5
        · rw [filterMap_take f xs i _ hx, hout]; exact rl.mono (Z.le_trans l3 l5)
      | true =>
        refine wpAny_bind (wpAny_bind (wpAny_mono (k5 z5 _ _ _ (Z.le_refl _) R5) ?_ fun _ _ x => x.absurd))
        rintro y s6 ⟨z6, σ6, l6, R6, u, ru, hout, hle⟩
        have R6' : R C' (((hid C zs s4.heap).put I o'').put D (lstO items k)) σ6 z6 s6 := by rw [Z.put_comm hID]; exact R6
        have hatD := R6'.rh.hidden put_self (Stays.list items k)
        refine wpAny_bind (wpAny_list_append_plain (l := D) (items := items.toArray) ⟨k, hatD⟩ (fun h'' hpl hsb' => ?_) ?_)
        · obtain ⟨k', hk'⟩ := hpl
          have e2 : h''.get? D = some (lstO (items ++ [y]) k') := by rw [hk']; simp [lstO]
          have R7 := R6'.iter (o' := lstO (items ++ [y]) k') (put_ne (Ne.symm hID) hD0) (fr0.put hI0) (Stays.list items k) hsb'.extBut e2 (t := s6.toks)
          refine wpAny_pure (wpAny_pure ⟨rfl, xs.length - (i + 1), by (first | lia | omega), i + 1, z6, σ6, o'', items ++ [y], k', rfl, by (first | lia | omega), Z.le_trans lz (Z.le_trans l3 (Z.le_trans l5 l6)), R7, hle, hJ'', ?_⟩)
          rw [filterMap_take f xs i _ hx, hout]
          exact (rl.mono (Z.le_trans l3 (Z.le_trans l5 l6))).append (.cons ru .nil)
        · rw [List.size_toArray, rl.length, sizeLine_eq]
          have := List.length_filterMap_le f (xs.take i)
          have := List.length_take_le i xs
          (first | lia | omega)
    · have he : i = xs.length := by (first | lia | omega)
      subst he
      have hlenm : (xs.map φ).length = xs.length := List.length_map ..
      refine WO.fin _ _ _ s' I o' _ _ (by rw [hlenm]; exact hJ') R1'.rh ⟨lz, hS _ le'.led⟩ hat fun h' hx => ?_
      refine wpAny_pure ?_
      have R2 := R1'.unhide (put_ne hID hI0) (fr0.put hD0) stay hx (t := s'.toks)
      obtain ⟨ms, hms, _⟩ := R2.ns
      have hatD := R2.rh.hidden put_self (Stays.list items k)
      have rr : RH C.g (hid C zs s4.heap) σ'.H z' { s' with heap := h' } := R2.rh.unhide hD0
      have Rb := (R4.back lz rr).weaken (σ' := ⟨σ1.loc, H0⟩) (fun _ _ h => h) le'.led
      obtain ⟨oL, esL, epL, eL, dL, _⟩ := id hms
      have apL := fa Lc (by (first | lia | omega))
      have Rl := Rb.hideAt (I := Lc) (o := oL) eL R2.locFree.1 apL
      rw [List.take_length] at rl
      obtain ⟨d1, d2, d3, d4⟩ := fa D (by (first | lia | omega))
      subst hRes
      exact fin zs z' { s' with heap := h' } D items k Lc oL Rl apL.1 hR.fr (fun ov e => by rw [dL] at e; cases e) ⟨ms, hms⟩ eL hatD (R2.rh.disj _ _ put_self) ⟨put_ne (Ne.symm hDL) d1, d2, d3, d4⟩ rl _ _
        fun v s'' z'' σ'' lz'' R'' q => ⟨z'', σ'', Z.le_trans l1 (Z.le_trans lz lz''), R'', q⟩
  exact codeAny_compStart_list loop (WO.self s4 I o _ _ hJ (by rw [hh4]; exact eI) loop)

theorem TT.listcomp {g : Gd} {n : Nat} {sc scope : Scope} {elt target iter : Expr} {ifs : List Expr} {pos : Pos} {z₀ : Z} {Q : Z → Value → St → Prop} (hIn : In C g n sc) (K : CompOK scope sc)
    (h : TE C iter (CompH C g n sc scope target ifs elt fun σ1 ys H0 =>
      (∀ zs' z' s' a items k, R C zs' ⟨σ1.loc, H0⟩ z' s' → s'.heap.get? a = some (lstO items k) → z' a = none → Apart C zs' ⟨σ1.loc, H0⟩ a → RepL z' (ys) items →
        Post C zs' z' Q (.ref a) s')) X σ)
    (hs : ∀ x, foldedSetIterable iter C.env x = Pure.pure x := by intro _; rfl) : TT C z₀ (eval (.ListComp elt [⟨target, iter, ifs, 0⟩] scope pos) C.env) Q X σ := by
  rw [eval_ListComp]
  refine TT.compCore (use := none) hIn K (h.mono ?_) hs
  rintro v σ1 ⟨α, xs, φ, f, L, H0, S, h1, h2, h3, h4, h5, h6, h7⟩
  refine ⟨α, xs, φ, f, L, H0, S, h1, h2, h3, h4, h5, h6, ?_⟩
  intro zs' z' s' a items k Lc oL R' e1 e2 e3 e4 e5 e6 e7 e8 e9 Qf E hQ
  obtain ⟨m, hm⟩ := e4
  refine ⟨m, hm, fun h' hsb => ?_⟩
  have ne : a ≠ Lc := (put_none e8.1).1
  have R'' := R'.unhideC e1 e2 e3 (t := s'.toks) hsb.extBut
  obtain ⟨z'', σ'', lz, R3, q⟩ := h7 zs' z' { s' with heap := h' } a items k R'' ((hsb.2 a ne).trans e6) e7 ⟨(put_none e8.1).2, e8.2⟩ e9
  exact hQ _ _ z'' σ'' lz R3 q
/-- `x = [comp]`: the name takes the list while the comprehension's own names still stand -/
theorem TT.listcompU {g : Gd} {n : Nat} {sc scope : Scope} {elt target iter t : Expr} {ifs : List Expr} {pos : Pos} {z₀ : Z} {Q : St → Prop} (hIn : In C g n sc) (K : CompOK scope sc)
    (h : TE C iter (CompH C g n sc scope target ifs elt fun σ1 ys H0 =>
      (TAs C t (.lst (ys)) Q X0 ⟨σ1.loc, H0⟩ ∨ ∀ a, TAs C t (.ref a) Q X0 ⟨σ1.loc, (a, .list (ys)) :: H0⟩)) X σ)
    (hs : ∀ x, foldedSetIterable iter C.env x = Pure.pure x := by intro _; rfl) :
    TT C z₀ (comprehension (.ListComp elt [⟨target, iter, ifs, 0⟩] scope pos) scope C.env (firstIterPos [⟨target, iter, ifs, 0⟩] pos) (newList []) (firstAsync [⟨target, iter, ifs, 0⟩]) (firstIter [⟨target, iter, ifs, 0⟩] C.env) (some (assign t C.env))) (fun _ _ σ' => Q σ') X σ := by
  refine TT.compCore (use := some (assign t C.env)) hIn K (h.mono ?_) hs
  rintro v σ1 ⟨α, xs, φ, f, L, H0, S, h1, h2, h3, h4, h5, h6, h7⟩
  refine ⟨α, xs, φ, f, L, H0, S, h1, h2, h3, h4, h5, h6, ?_⟩
  intro zs' z' s' a items k Lc oL R' e1 e2 e3 e4 e5 e6 e7 e8 e9 Qf E hQ
  have key : ∀ (u : V) (σ2 : St) (z2 : Z), Z.le z' z2 → Rep z2 u (.ref a) → R C (zs'.put Lc oL) σ2 z2 s' → TAs C t u Q X0 σ2 → compPost C.M C.A E (some (assign t C.env)) Qf (.ref a) Lc (.ok .next) s' := by
    intro u σ2 z2 l2 ru R2 ht
    show wpAny _ _ (assign t C.env (.ref a)) _ _ s'
    refine wpAny_mono (ht z2 _ ru _ z2 s' (Z.le_refl _) R2) ?_ fun _ _ x => x.absurd
    rintro ⟨⟩ s'' ⟨z3, σ3, l3, R3, q⟩
    obtain ⟨m, hm⟩ := e4
    obtain ⟨sl, e10, _⟩ := R3.rh.hzs Lc oL put_self
    refine ⟨m, ns_slots hm (fun o ho => ?_), fun h' hsb => ?_⟩
    · rw [e5] at ho; cases ho; exact ⟨sl, e10⟩
    · exact hQ _ _ z3 σ3 (Z.le_trans l2 l3) (R3.unhideC e1 e2 e3 (t := s''.toks) hsb.extBut) q
  rcases h7 with h7 | h7
  · have l := Z.le_put R'.rh e6
    exact key (.lst (xs.filterMap f)) _ _ l (.lst put_self (e9.mono l)) (R'.freeze e6 e8) h7
  · exact key (.ref a) _ z' (Z.le_refl _) (.ref a) (R'.ledger (o := .list (xs.filterMap f)) ⟨items, k, e6, e9⟩ e7 e8) (h7 a)
end
end PL

end
section
open PySem PySem.Calls PyProof.Rows
set_option Elab.async false
set_option linter.unusedVariables false
set_option linter.unusedSimpArgs false
set_option maxRecDepth 100000
namespace PL

noncomputable def tyOf (o : Bool) : String := if o then "bytes" else "str"

namespace BF
theorem tyty (o : Bool) : typeOf (.type (tyOf o)) = pure (.type "type") := by cases o <;> kernel_rfl
theorem sub_bs : isSubtype (.type "bytes") (.type "str") = pure false := by rw [isSubtype_type]; kernel_rfl
theorem sub_bb : isSubtype (.type "bytes") (.type "bytes") = pure true := by rw [isSubtype_type]; kernel_rfl
end BF

section
variable {C : Cx} {X : XP} {σ : St} {Q : V → St → Prop}

theorem txt_typeIs {z : Z} {o : Bool} {l : List Nat} {x : Value} (r : Rep z (.txt o l) x) (s : Shared) : s.TypeIs x (tyOf o) := by
  have rq := r.txt_; clear r; rcases rq with ⟨rfl, t, rfl⟩ | ⟨rfl, t, rfl, h⟩
  · exact typeIs_str _ _ _
  · exact PySem.W.typeIs_bytes _ _ _

theorem call_type {o : Bool} {l : List Nat} (h : Q (.con (.type (tyOf o))) σ) : CallV C (.type "type") [.txt o l] Q X σ := by
  refine CallV.toks fun z₀ zs z s xs hz hR r => ?_
  have rq := RepL.inv r; clear r; obtain ⟨_, _, rfl, r, t⟩ := rq
  cases t.inv0; clear t
  exact call_type_of (txt_typeIs r s) (by cases o <;> decide) (PVal.same hR (.con _) h)

section
variable {prog : Program} {w : World} {A : Around} {E : Value → Shared → Prop} {s : Shared}
end
end
end PL

end
section
open PySem PySem.Calls PyProof.Rows
set_option Elab.async false
set_option linter.unusedVariables false
set_option linter.unusedSimpArgs false
set_option maxRecDepth 100000
namespace PL

section
variable {C : Cx} {X : XP} {σ : St} {Q : V → St → Prop}

theorem CallV.grown {Q : V → St → Prop} {zs z : Z} {s : Shared} (hR : R C zs σ z s) {v : V} {x : Value} {h' : Heap} {t : Nat} (k : ∀ b o, s.heap.get? b = some o → h'.get? b = some o) (r : Rep z v x) (h : Q v σ) :
    Post C zs z (PVal Q) x { s with heap := h', toks := t } := ⟨z, σ, Z.le_refl _, hR.grow k, v, r, h⟩

theorem call_isinstance_txt {o p : Bool} {l : List Nat} (h : Q (.bool (o == p)) σ) : CallV C (.builtin "isinstance") [.txt o l, .con (.type (tyOf p))] Q X σ := by
  refine CallV.toks fun z₀ zs z s xs hz hR r => ?_
  have rq := RepL.inv r; clear r; obtain ⟨_, _, rfl, r, t⟩ := rq
  have tq := RepL.inv t; clear t; obtain ⟨_, _, rfl, r2, t⟩ := tq
  cases t.inv0
  clear t
  have r2q := r2.e
  clear r2
  obtain ⟨_, rfl⟩ := r2q
  have rq := r.txt_; clear r; rcases rq with ⟨rfl, t, rfl⟩ | ⟨rfl, t, rfl, hl⟩
  · cases p with
    | false => exact PySem.IsiPair.str_str (PVal.same hR (.bool true) h)
    | true => exact PySem.IsiPair.str_bytes (PVal.toks hR (.bool false) h)
  · cases p with
    | false => exact call_isinstance (fun _ _ _ _ s hs => by
        obtain ⟨h, g, d, t, os⟩ := s
        exact isinstance_outer (isinstance_nested_false_bytes (by decide) (BF.tyty false) BF.sub_bs hs)) (S := fun _ R s => R (.ok (.ret (.bool false))) { s with toks := s.toks + 1 }) (PVal.toks hR (.bool false) h)
    | true => exact call_isinstance (isinstance_true (BF.tyty true) BF.sub_bb) ⟨PySem.W.typeIs_bytes _ _ _, PVal.same hR (.bool true) h⟩

theorem call_len_list {v : V} {vs : List V} (k : IsL σ v vs) (hn : vs.length ≤ 16777216) (h : Q (.int vs.length) σ) : CallV C (.builtin "len") [v] Q X σ := by
  refine CallV.toks fun z₀ zs z s xs hz hR r => ?_
  have rq := RepL.inv r; clear r; obtain ⟨_, _, rfl, r, t⟩ := rq
  cases t.inv0; clear t
  obtain ⟨a, items, rfl, p, q⟩ := k.at r (Z.le_refl _) hR
  have e : items.toArray.size = vs.length := by rw [List.size_toArray, q.length]
  exact PySem.Calls.call_len_list p (by rw [e]; (clear q p r a hR hz s z zs z₀ h k v e items; (first | lia | omega))) (PVal.toks hR (by rw [e]; exact .int _ _) h)
theorem call_ord {c : Nat} (h : Q (.int c) σ) : CallV C (.builtin "ord") [.txt false [c]] Q X σ := by
  refine CallV.toks fun z₀ zs z s xs hz hR r => ?_
  have rq := RepL.inv r; clear r; obtain ⟨_, _, rfl, r, t⟩ := rq
  cases t.inv0
  clear t
  have rq := r.e; clear r; obtain ⟨t, rfl⟩ := rq
  exact P.ord_of_char (PVal.toks hR (.int _ _) h)
theorem call_chr {i : Int} (h0 : 0 ≤ i) (h1 : i ≤ 1114111) (h : Q (.txt false [i.toNat]) σ) : CallV C (.builtin "chr") [.int i] Q X σ := by
  refine CallV.toks fun z₀ zs z s xs hz hR r => ?_
  have rq := RepL.inv r; clear r; obtain ⟨_, _, rfl, r, t⟩ := rq
  cases t.inv0
  clear t
  have rq := r.e; clear r; obtain ⟨t, rfl⟩ := rq
  exact P.chr_of_int (by simp; (clear t hR hz s z zs z₀ h; (first | lia | omega))) (PVal.toks hR (.str _ _) h)
theorem RepL.intItems {z : Z} {ns : List Int} : ∀ {xs : List Value}, RepL z (ns.map .int) xs → ∃ ps : List (Int × Tok), xs = ps.map (fun p => .int p.1 p.2) ∧ ps.map (·.1) = ns := by
  induction ns with
  | nil => intro xs r; exact ⟨[], r.inv0, rfl⟩
  | cons n ns ih =>
    intro xs r
    have rq := RepL.inv r; clear r; obtain ⟨_, _, rfl, r, t⟩ := rq
    obtain ⟨ps, rfl, rfl⟩ := ih t
    obtain ⟨tk, rfl⟩ := r.e
    exact ⟨(n, tk) :: ps, rfl, rfl⟩
theorem call_bytes {v : V} {ns : List Nat} (hh : C.A.handled = none) (k : IsL σ v (ns.map fun c : Nat => .int (c : Int))) (hr : ∀ c ∈ ns, c < 256) (hn : ns.length ≤ 16777216) (h : Q (.txt true ns) σ) :
    CallV C (.type "bytes") [v] Q X σ := by
  refine CallV.toks fun z₀ zs z s xs hz hR r => ?_
  have rq := RepL.inv r; clear r; obtain ⟨_, _, rfl, r, t⟩ := rq
  cases t.inv0; clear t
  obtain ⟨a, items, rfl, p, q⟩ := k.at r (Z.le_refl _) hR
  have q' : RepL z ((ns.map fun c : Nat => (c : Int)).map .int) items := by rw [List.map_map]; exact q
  obtain ⟨ps, e1, e2⟩ := q'.intItems
  have hi : ∀ ps : List (Int × Tok), IntsAre (ps.map fun p => .int p.1 p.2) (ps.map (·.1)) := by
    intro ps
    induction ps with
    | nil => exact .nil
    | cons p r ih => exact .cons _ _ ih
  subst e1
  refine call_bytes_ints p (hi ps) ?_ (by have := q'.length; rw [List.length_map, List.length_map] at this; rw [List.length_map] at this ⊢; rw [this]; exact size_ok hn) hh fun h' t k hk => ?_
  · rw [e2]
    intro n hn
    obtain ⟨c, hc, rfl⟩ := List.mem_map.mp hn
    have := hr c hc
    (first | lia | omega)
  · have : PySem.byteArr (ps.map (·.1)) = (ns.map UInt8.ofNat).toArray := by
      rw [e2]
      unfold PySem.byteArr
      rw [List.map_map]
      congr 1
    rw [this]
    exact CallV.grown hR hk (.bytes _ _ hr) h

theorem RepL.strItems {z : Z} {ns : List (List Nat)} : ∀ {xs : List Value}, RepL z (ns.map (.txt false)) xs → ∃ ps : List (Str × Tok), xs = strValues ps ∧ ps.map (·.1) = ns.map strOf := by
  induction ns with
  | nil => intro xs r; exact ⟨[], r.inv0, rfl⟩
  | cons n ns ih =>
    intro xs r
    have rq := RepL.inv r; clear r; obtain ⟨_, _, rfl, r, t⟩ := rq
    obtain ⟨ps, rfl, e2⟩ := ih t
    obtain ⟨tk, rfl⟩ := r.e
    exact ⟨(strOf n, tk) :: ps, rfl, by rw [List.map_cons, List.map_cons, e2]⟩
theorem joinFold (sep : Nat) : ∀ (ps : List (List Nat)) (acc : Nat), (ps.map strOf).foldl (fun a x => a + x.length + sep) acc = acc + (ps.map List.length).sum + ps.length * sep
  | [], acc => by simp
  | p :: r, acc => by
    rw [List.map_cons, List.foldl_cons, joinFold sep r, List.map_cons, List.sum_cons, List.length_cons, Nat.succ_mul]
    have : (strOf p).length = p.length := strlen
    rw [this]; (clear this; (first | lia | omega))
theorem call_join_str {sep : List Nat} {v : V} {ps : List (List Nat)} (k : IsL σ v (ps.map (.txt false))) (hn : (ps.map List.length).sum + ps.length * sep.length ≤ 16777216) (h : Q (.txt false (joinS sep ps)) σ) :
    CallV C (.builtin "str.join") [.txt false sep, v] Q X σ := by
  refine CallV.toks fun z₀ zs z s xs hz hR r => ?_
  have rq := RepL.inv r; clear r; obtain ⟨_, _, rfl, r, t⟩ := rq
  have tq := RepL.inv t; clear t; obtain ⟨_, _, rfl, r2, t⟩ := tq
  cases t.inv0; clear t
  obtain ⟨a, items, n, rfl, p, q⟩ := k.obj r2 (Z.le_refl _) hR
  have rq := r.e; clear r; obtain ⟨t, rfl⟩ := rq
  obtain ⟨l, e1, e2⟩ := q.strItems
  subst e1
  refine SC.join (D := a) (l := l) (texts := ps.map strOf) ⟨_, p, rfl, _, rfl⟩ e2 ?_ fun t' k' => ?_
  · unfold JoinOk
    rw [Bool.not_eq_true']
    show Builtin.Str.tooLong _ = false
    have := joinFold sep.length ps 0
    have e : ((ps.map strOf).toArray.foldl (fun x1 x2 => x1 + x2.length + (⟨sep.toArray⟩ : Str).length) 0) = 0 + (ps.map List.length).sum + ps.length * sep.length := by
      rw [List.foldl_toArray, strlen]; exact this
    rw [e]
    unfold Builtin.Str.tooLong
    rw [sizeLine_eq]
    simp; (clear e this q p e2 l t r2 n a hR hz s z zs z₀ h k v; (first | lia | omega))
  · have e : Txt.join ⟨sep.toArray⟩ (ps.map strOf) = strOf (joinS sep ps) := by
      rw [← str_join]; exact StrLaws.glued_eq_join _ _
    rw [e]
    exact PVal.toks hR (.str _ _) h
end
end PL

end
section
open PySem PySem.Calls PyProof.Rows
set_option Elab.async false
set_option linter.unusedVariables false
set_option linter.unusedSimpArgs false
set_option maxRecDepth 100000
namespace PL

section
variable {C : Cx} {X : XP} {σ : St}

theorem TE.listcompF {g : Gd} {n : Nat} {sc scope : Scope} {elt target iter : Expr} {ifs : List Expr} {pos : Pos} {Q : V → St → Prop} (hIn : In C g n sc) (K : CompOK scope sc)
    (h : TE C iter (CompH C g n sc scope target ifs elt fun σ1 ys H0 =>
      Q (.lst (ys)) ⟨σ1.loc, H0⟩) X σ)
    (hs : ∀ x, foldedSetIterable iter C.env x = pure x := by intro _; rfl) : TE C (.ListComp elt [⟨target, iter, ifs, 0⟩] scope pos) Q X σ := by
  intro z₀
  refine TT.listcomp hIn K (h.mono fun v σ1 ⟨α, xs, φ, f, L, H0, S, h1, h2, h3, h4, h5, h6, h7⟩ => ⟨α, xs, φ, f, L, H0, S, h1, h2, h3, h4, h5, h6, ?_⟩) hs
  intro zs' z' s' a items k R' e ez ap rl
  have l := Z.le_put R'.rh e
  exact ⟨_, _, l, R'.freeze e ap, _, .lst put_self (rl.mono l), h7⟩
theorem TS.expr {e : Expr} {pos : Pos} {Q : Fl → St → Prop} (h : TE C e (fun _ σ1 => Q .next σ1) X σ) (hs : swapsWith e none pos.line C.env = pure false := by rfl) : TS C (.Expr e pos) Q X σ := by
  intro z₀
  have hi : interactive C.env = false := by unfold interactive; rw [C.hk]; rfl
  rw [exec_Expr (env := C.env) e pos hi hs]
  refine TT.at_ (TT.bind (TT.mono (h z₀) ?_))
  rintro z v σ1 l ⟨_, _, q⟩
  intro zs z' s hz hR
  exact wpAny_dropValue ⟨z', σ1, Z.le_refl _, hR, .next, .next, q⟩

end

/-! equality of plain data -/
mutual
noncomputable def toD : V → PyData
  | .none => .none
  | .bool b => .bool b
  | .int i => .int i
  | .txt _ l => .str ⟨l.toArray⟩
  | .tup vs => .tuple (toDs vs)
  | .lst vs => .list (toDs vs)
  | _ => .none
noncomputable def toDs : List V → List PyData
  | [] => []
  | v :: r => toD v :: toDs r
end
mutual
noncomputable def plainV : V → Bool
  | .none => true
  | .bool _ => true
  | .int _ => true
  | .txt o l => !o && l.all (· < 0x110000)
  | .tup vs => plainVs vs
  | .lst vs => plainVs vs
  | _ => false
noncomputable def plainVs : List V → Bool
  | [] => true
  | v :: r => plainV v && plainVs r
end
mutual
noncomputable def deepV : V → Nat
  | .tup vs => deepVs vs + 1
  | .lst vs => deepVs vs + 1
  | _ => 0
noncomputable def deepVs : List V → Nat
  | [] => 0
  | v :: r => max (deepV v) (deepVs r)
end
mutual
theorem reads_of {z : Z} {h : Heap} (k : ∀ b o, z b = some o → h.get? b = some o) : ∀ {v : V} {x : Value}, Rep z v x → plainV v = true → ∃ as, Reads h x (toD v) as
  | _, _, .none, _ => ⟨_, .none⟩
  | _, _, .bool b, _ => ⟨_, .bool b⟩
  | _, _, .int i t, _ => ⟨_, .int i t⟩
  | _, _, .str l t, _ => ⟨_, .str _ t⟩
  | _, _, .bytes l t _, e => by simp [plainV] at e
  | _, _, .tup e hr, p => let ⟨as, ra⟩ := reads_ofs k hr (by simpa [plainV] using p); ⟨_, .tuple (k _ _ e) rfl rfl (by simpa using ra)⟩
  | _, _, .lst e hr, p => let ⟨as, ra⟩ := reads_ofs k hr (by simpa [plainV] using p); ⟨_, .list (k _ _ e) rfl rfl (by simpa using ra)⟩
  | _, _, .ref a, p => by simp [plainV] at p
  | _, _, .con v, p => by simp [plainV] at p
  | _, _, .rng _, p => by simp [plainV] at p
  | _, _, .opq _ _, p => by simp [plainV] at p
theorem reads_ofs {z : Z} {h : Heap} (k : ∀ b o, z b = some o → h.get? b = some o) : ∀ {vs : List V} {xs : List Value}, RepL z vs xs → plainVs vs = true → ∃ as, ReadsAll h xs (toDs vs) as
  | _, _, .nil, _ => ⟨_, .nil⟩
  | v :: vs, _, .cons r t, p => by
    have p1 : plainV v = true ∧ plainVs vs = true := by simpa [plainVs] using p
    obtain ⟨as, ra⟩ := reads_of k r p1.1
    obtain ⟨bs, rb⟩ := reads_ofs k t p1.2
    exact ⟨_, .cons ra rb⟩
end
mutual
theorem canLay_of : ∀ {v : V}, plainV v = true → (toD v).canLay0 = true
  | .none, _ => rfl
  | .bool _, _ => rfl
  | .int _, _ => rfl
  | .txt o l, p => by simp [plainV] at p; simpa [toD, PyData.canLay0, PyData.strOk] using p.2
  | .tup vs, p => by simpa [toD, PyData.canLay0] using canLays_of (by simpa [plainV] using p)
  | .lst vs, p => by simpa [toD, PyData.canLay0] using canLays_of (by simpa [plainV] using p)
  | .ref _, p => by simp [plainV] at p
  | .con _, p => by simp [plainV] at p
  | .rng _ _ _, p => by simp [plainV] at p
  | .opq _, p => by simp [plainV] at p
theorem canLays_of : ∀ {vs : List V}, plainVs vs = true → PyData.canLayAll0 (toDs vs) = true
  | [], _ => rfl
  | v :: r, p => by
    have p1 : plainV v = true ∧ plainVs r = true := by simpa [plainVs] using p
    simp [toDs, PyData.canLayAll0, canLay_of p1.1, canLays_of p1.2]
end
mutual
theorem depth_of : ∀ (v : V), (toD v).depth = deepV v
  | .none => rfl
  | .bool _ => rfl
  | .int _ => rfl
  | .txt o l => rfl
  | .tup vs => by simp [toD, PyData.depth, deepV, depths_of vs]
  | .lst vs => by simp [toD, PyData.depth, deepV, depths_of vs]
  | .ref _ => rfl
  | .con _ => rfl
  | .rng _ _ _ => rfl
  | .opq _ => rfl
theorem depths_of : ∀ (vs : List V), PyData.depthAll (toDs vs) = deepVs vs
  | [] => rfl
  | v :: r => by simp [toDs, PyData.depthAll, deepVs, depth_of v, depths_of r]
end
section
variable {C : Cx} {X : XP} {σ : St} {Q : V → St → Prop}
theorem Cmp.eq_data {a b : V} (ha : plainV a = true) (hb : plainV b = true) (da : deepV a ≤ 64) (db : deepV b ≤ 64) (h : Q (.bool (PyData.eqv (toD a) (toD b))) σ) : Cmp C .Eq a b Q X σ := by
  intro z₀ x y rx ry zs z s hz hR
  obtain ⟨as, ra⟩ := reads_of hR.rh.hz (rx.mono hz) ha
  obtain ⟨bs, rb⟩ := reads_of hR.rh.hz (ry.mono hz) hb
  have hu := C.hunits
  refine eq_dataH ra rb ?_ ?_ (by show _ < 9900; (clear rb bs ra as hR hz s z zs ry rx y x z₀ h db da hb ha b a; (first | lia | omega))) (PVal.same hR (.bool _) h)
  · unfold SeqAt.shaped; rw [canLay_of ha, depth_of]; simp [da]
  · unfold SeqAt.shaped; rw [canLay_of hb, depth_of]; simp [db]
theorem Cmp.ne_data {a b : V} (ha : plainV a = true) (hb : plainV b = true) (da : deepV a ≤ 64) (db : deepV b ≤ 64) (h : Q (.bool (!PyData.eqv (toD a) (toD b))) σ) : Cmp C .NotEq a b Q X σ := by
  intro z₀ x y rx ry zs z s hz hR
  obtain ⟨as, ra⟩ := reads_of hR.rh.hz (rx.mono hz) ha
  obtain ⟨bs, rb⟩ := reads_of hR.rh.hz (ry.mono hz) hb
  have hu := C.hunits
  refine ne_dataH ra rb ?_ ?_ (by show _ < 9900; (clear rb bs ra as hR hz s z zs ry rx y x z₀ h db da hb ha b a; (first | lia | omega))) (PVal.same hR (.bool _) h)
  · unfold SeqAt.shaped; rw [canLay_of ha, depth_of]; simp [da]
  · unfold SeqAt.shaped; rw [canLay_of hb, depth_of]; simp [db]
end
end PL

end
section
open PySem PySem.W PySem.Calls PyProof.Rows
set_option Elab.async false
set_option linter.unusedVariables false
set_option linter.unusedSimpArgs false
set_option maxRecDepth 100000
namespace PL

noncomputable def recAt (p : Program) (i : Nat) : DefRec := match p.main.body[i]? with
  | some (.FunctionDef n a b _ _ _ sc _ _ pos) => ⟨n, a, b, sc, pos⟩
  | _ => ⟨default, { posonlyargs := [], args := [], vararg := none, kwonlyargs := [], kw_defaults := [], kwarg := none, defaults := [] }, [], default, default⟩
noncomputable abbrev bodyAt (p : Program) (i : Nat) : List Stmt := (recAt p i).body
noncomputable abbrev scAt (p : Program) (i : Nat) : Scope := (recAt p i).scope
noncomputable abbrev nameAt (p : Program) (i : Nat) : Str := (recAt p i).name
noncomputable abbrev parsAt (p : Program) (i : Nat) : List Str := (recAt p i).params.args.map (·.arg)

/-- the address holds the function of the text's statement i -/
noncomputable def Fn (g : Gd) (p : Program) (i : Nat) (a : Addr) : Prop := g.mg (nameAt p i) = some (.ref a) ∧ ∃ fd, IsFn g a fd (bodyAt p i) (scAt p i) (parsAt p i)
/-- names of builtins that the text does not bind -/
noncomputable def Free (g : Gd) (bs : List Str) : Prop := ∀ x ∈ bs, g.mg x = none

section
variable {C : Cx} {X : XP} {σ : St} {Q : V → St → Prop} {g : Gd} {n : Nat} {sc : Scope}
theorem Fn.kept {g : Gd} {p : Program} {i : Nat} {a : Addr} (h : Fn g p i a) : Kept g (.ref a) :=
  let ⟨_, fd, F⟩ := h; let ⟨o, e, d⟩ := F.b.at_; .fn e d
theorem TE.callG (hIn : In C g n sc) {p : Program} {i : Nat} {a : Addr} {x : Str} {np pos : Pos} {args : List Expr} (hf : Fn g p i a) (hx : nameAt p i = x) (hl : sc.names.lookup x = some .globalImplicit)
    (h : TArgs C args (fun vs σ2 => CallV C (.ref a) vs Q X σ2) X σ) (hd : (x == ("__debug__" : Str)) = false := by decide +kernel)
    (hp : (backTo pos (starEach args C.env)).any (·.1) = false := by rfl)
    (he : eval (.Call (.Name x np) args [] pos) C.env = (do callWith pos (← eval (.Name x np) C.env) [] (backTo pos (starEach args C.env)) []) := by rfl) : TE C (.Call (.Name x np) args [] pos) Q X σ := by
  have hg := hIn.g
  subst hg
  exact TE.call (TE.name_glob ((hIn.kind x).trans hl) (hx ▸ hf.1) ⟨_, rfl, hf.kept, h⟩ hd) hp he
theorem TE.callB (hIn : In C g n sc) {bs : List Str} {x : Str} {f : Value} {np pos : Pos} {args : List Expr} (hl : sc.names.lookup x = some .globalImplicit) (hfr : Free g bs) (hm : x ∈ bs) (hv : bootBuiltins x = some f)
    (kf : ∀ g, Kept g f) (h : TArgs C args (fun vs σ2 => CallV C f vs Q X σ2) X σ) (hd : (x == ("__debug__" : Str)) = false := by decide +kernel) (hn' : x ≠ "__name__" := by decide +kernel)
    (hp : (backTo pos (starEach args C.env)).any (·.1) = false := by rfl)
    (he : eval (.Call (.Name x np) args [] pos) C.env = (do callWith pos (← eval (.Name x np) C.env) [] (backTo pos (starEach args C.env)) []) := by rfl) : TE C (.Call (.Name x np) args [] pos) Q X σ := by
  have hg := hIn.g
  subst hg
  exact TE.call (TE.name_builtin ((hIn.kind x).trans hl) (hfr x hm) hv ⟨_, rfl, kf _, h⟩ hd hn') hp he
theorem TE.nameB (hIn : In C g n sc) {bs : List Str} {x : Str} {f : Value} {np : Pos} (hl : sc.names.lookup x = some .globalImplicit) (hfr : Free g bs) (hm : x ∈ bs) (hv : bootBuiltins x = some f)
    (h : Q (.con f) σ) (hd : (x == ("__debug__" : Str)) = false := by decide +kernel) (hn' : x ≠ "__name__" := by decide +kernel) : TE C (.Name x np) Q X σ := by
  have hg := hIn.g
  subst hg
  exact TE.name_builtin ((hIn.kind x).trans hl) (hfr x hm) hv h hd hn'
theorem TE.nameL (hIn : In C g n sc) {x : Str} {np : Pos} {v : V} (hl : sc.names.lookup x = some .local) (hv : σ.loc.lookup x = some v) (h : Q v σ) (hd : (x == ("__debug__" : Str)) = false := by decide +kernel) : TE C (.Name x np) Q X σ :=
  TE.name_local ((hIn.kind x).trans hl) hv h hd
theorem In.stL (hIn : In C g n sc) {x : Str} (e : sc.names.lookup x = some .local) : Stores C x := .loc ((hIn.kind x).trans e)
theorem CallV.fnI (hIn : In C g n sc) {a : Value} {vs : List V} {m : Nat} (h : CallT g m a vs (fun v H' => Q v ⟨σ.loc, H'⟩) (fun cls H' => X cls ⟨σ.loc, H'⟩) σ.H) (hm : m ≤ n) : CallV C a vs Q X σ := by
  have hg := hIn.g
  subst hg
  exact CallV.fn (by rw [hIn.n]; exact hm) hIn.calm h
end

theorem lk_hit {L : List (Str × V)} {x : Str} {v : V} : (setL L x v).lookup x = some v := by rw [lookup_setL, if_pos rfl]
theorem Lo.nil {L : List (Str × V)} : Lo [] L := fun _ _ h => by cases h
theorem Lo.cons {L L' : List (Str × V)} {x : Str} {v : V} (h : L'.lookup x = some v) (t : Lo L L') : Lo ((x, v) :: L) L' := by
  intro y u e
  rw [List.lookup_cons] at e
  cases k : y == x with
  | true => rw [k] at e; cases e; rw [eq_of_beq k]; exact h
  | false => rw [k] at e; exact t y u e
/-- where a name stands: tells the value, proves nothing (the kernel looks it up) -/
noncomputable def Find (_ : List (Str × V)) (_ : Str) (_ : V) : Prop := True
theorem Find.hit {L : List (Str × V)} {x : Str} {v : V} : Find (setL L x v) x v := trivial
theorem Find.hd {L : List (Str × V)} {x : Str} {v : V} : Find ((x, v) :: L) x v := trivial
theorem Find.miss {L : List (Str × V)} {x y : Str} {v u : V} (_ : Find L y u) : Find (setL L x v) y u := trivial
theorem Find.tl {L : List (Str × V)} {x y : Str} {v u : V} (_ : Find L y u) : Find ((x, v) :: L) y u := trivial
noncomputable abbrev Ig {L : List (Str × V)} {x : Str} {v : V} (_ : Find L x v) : Prop := L.lookup x = some v
noncomputable abbrev leA (n : Nat) (p : Prop) : Prop := n ≤ 16777216 ∧ p
theorem leAnd {n : Nat} {p : Prop} (h : n ≤ 16777216) (k : p) : leA n p := ⟨h, k⟩
theorem Kept.biA {id : String} : ∀ g, Kept g (.builtin id) := fun _ => .bi _
theorem Kept.tyA {id : String} : ∀ g, Kept g (.type id) := fun _ => .ty _
noncomputable def loF (L' : List (Str × V)) (L : List (Str × V)) : List (Option V) := L.foldr (fun p a => L'.lookup p.1 :: a) []
noncomputable def svF (L : List (Str × V)) : List (Option V) := L.foldr (fun p a => some p.2 :: a) []
theorem Lo.of {L L' : List (Str × V)} (h : loF L' L = svF L) : Lo L L' := by
  induction L with
  | nil => exact Lo.nil
  | cons p r ih =>
    injection h with h1 h2
    exact Lo.cons h1 (ih h2)
theorem lf_of {L L' : List (Str × V)} {names : List (Str × NameKind)} (h : loF L' L = svF L) (hm : L.foldr (fun p a => decide ((p.1, NameKind.free) ∈ names) && a) true = true) :
    ∀ y u, List.lookup y L = some u → L'.lookup y = some u ∧ (y, NameKind.free) ∈ names := by
  intro y u e
  refine ⟨Lo.of h y u e, ?_⟩
  clear h
  induction L with
  | nil => cases e
  | cons p r ih =>
    simp only [List.foldr_cons, Bool.and_eq_true, decide_eq_true_eq] at hm
    rw [List.lookup_cons] at e
    cases k : y == p.1 with
    | true => rw [eq_of_beq k]; exact hm.1
    | false => rw [k] at e; exact ih hm.2 e

section
variable {C : Cx} {X : XP} {σ : St} {Q : V → St → Prop}
theorem TE.str {x : Str} {l : List Nat} {k : Nat} {p : Pos} (e : x.cps.toList = l) (h : Q (.txt false l) σ) : TE C (.Constant (.str x) k p) Q X σ := TE.const_str (by rw [e]; exact h)
theorem TE.byt {b : List UInt8} {l : List Nat} {k : Nat} {p : Pos} (e : b.map UInt8.toNat = l) (h : Q (.txt true l) σ) : TE C (.Constant (.bytes b) k p) Q X σ := TE.const_bytes (by rw [e]; exact h)

theorem Meth.split {o : Bool} {l : List Nat} : Meth C σ (.txt o l) "split" (tyOf o ++ ".split") := by
  cases o
  · exact Meth.str PySem.F.slot_str_split PySem.F.type_str_split
  · exact Meth.bytes BF.slot_split BF.type_split
theorem TE.joinS {e : Expr} {args : List Expr} {apos pos : Pos} (h : TE C e (fun ov σ1 => ∃ l, ov = V.txt false l ∧ TArgs C args (fun vs σ2 => ∃ v ps, vs = [v] ∧ IsL σ2 v (ps.map (V.txt false)) ∧ (ps.map List.length).sum + ps.length * l.length ≤ 16777216 ∧ Q (V.txt false (joinS l ps)) σ2) X σ1) X σ)
    (hp : (backTo pos (starEach args C.env)).any (·.1) = false := by rfl) (hb : attributeBase e "join" C.env (eval e C.env) = eval e C.env := by rfl)
    (hf : methodCallForm (args.length + 0) (backTo pos (starEach args C.env)) [] = true := by rfl) (hl : (apos.endLine == pos.line) = true := by rfl) : TE C (.Call (.Attribute e "join" apos) args [] pos) Q X σ := by
  refine TE.meth (id := "str.join") (h.mono ?_) hp hb hf hl
  rintro ov σ1 ⟨l, rfl, h⟩
  refine ⟨Meth.str PySem.F.slot_str_join PySem.F.type_str_join, fun p z₀ => (h p z₀).mono ?_⟩
  rintro z xs σ2 _ ⟨vs, r, v, ps, rfl, k, hn, q⟩
  exact ⟨_, r, call_join_str k hn q⟩
end

/-- the value of `e` has this one -/
theorem Str1 : (("/" : Str)).cps.toList = [47] := by decide +kernel
theorem Str3 : (("" : Str)).cps.toList = [] := by decide +kernel
theorem Byt1 : (([47] : List UInt8)).map UInt8.toNat = [47] := by decide +kernel
noncomputable abbrev BI : List Str := ["len", "ord", "chr", "abs", "min", "max", "sum", "isinstance", "issubclass", "sorted", "divmod", "range", "list", "tuple", "bytes", "str", "int", "bool", "type", "enumerate", "bytearray", "map", "iter", "ValueError", "TypeError", "AttributeError", "BytesWarning"]
namespace BI
theorem len : bootBuiltins "len" = some (.builtin "len") := by kernel_rfl
theorem ord : bootBuiltins "ord" = some (.builtin "ord") := by kernel_rfl
theorem chr : bootBuiltins "chr" = some (.builtin "chr") := by kernel_rfl
theorem abs : bootBuiltins "abs" = some (.builtin "abs") := by kernel_rfl
theorem min : bootBuiltins "min" = some (.builtin "min") := by kernel_rfl
theorem max : bootBuiltins "max" = some (.builtin "max") := by kernel_rfl
theorem sum : bootBuiltins "sum" = some (.builtin "sum") := by kernel_rfl
theorem isinstance : bootBuiltins "isinstance" = some (.builtin "isinstance") := by kernel_rfl
theorem issubclass : bootBuiltins "issubclass" = some (.builtin "issubclass") := by kernel_rfl
theorem divmod : bootBuiltins "divmod" = some (.builtin "divmod") := by kernel_rfl
theorem range : bootBuiltins "range" = some (.type "range") := by kernel_rfl
theorem list : bootBuiltins "list" = some (.type "list") := by kernel_rfl
theorem tuple : bootBuiltins "tuple" = some (.type "tuple") := by kernel_rfl
theorem bytes : bootBuiltins "bytes" = some (.type "bytes") := by kernel_rfl
theorem str : bootBuiltins "str" = some (.type "str") := by kernel_rfl
theorem bool : bootBuiltins "bool" = some (.type "bool") := by kernel_rfl
theorem type : bootBuiltins "type" = some (.type "type") := by kernel_rfl
theorem bytearray : bootBuiltins "bytearray" = some (.type "bytearray") := by kernel_rfl
end BI

theorem ite_t {c : Prop} [Decidable c] {A B : Prop} (h : c) (k : A) : if c then A else B := by rw [if_pos h]; exact k
theorem ite_f {c : Prop} [Decidable c] {A B : Prop} (h : ¬ c) (k : B) : if c then A else B := by rw [if_neg h]; exact k
theorem ite_b {c : Prop} [Decidable c] {A B : Prop} (h1 : c → A) (h2 : ¬ c → B) : if c then A else B := by
  by_cases h : c
  · rw [if_pos h]; exact h1 h
  · rw [if_neg h]; exact h2 h
theorem start1 {x : Str} {a : V} {H : Led} : Le ⟨[(x, a)], H⟩ ⟨bindV ([x].zip [a]) [], H⟩ := ⟨Lo.cons lk_hit Lo.nil, List.Sublist.refl _⟩
/-- what is plain about a def -/
structure Plain (d : DefRec) : Prop where
  kind : d.scope.kind = .function
  co : d.scope.isCoroutine = false
  gen : d.scope.isGenerator = false
  pos : d.params.posonlyargs = []
  va : d.params.vararg = none
  ko : d.params.kwonlyargs = []
  kd : d.params.kw_defaults = []
  kw : d.params.kwarg = none
  df : d.params.defaults = []
  names : (d.params.args.map (·.arg)).all (fun x => d.scope.names.lookup x == some .local || d.scope.names.lookup x == some .cell) = true
  nodup : ((cellsFrom 0 d.scope.names []).map (·.1)).Nodup

theorem fn_of {g : Gd} {p : Program} {i : Nat} (P : Plain (recAt p i)) (hbind : ∀ (pm code doc : Value) (xs : List Value), xs.length = (parsAt p i).length → bindArgs (docDef (recAt p i).name (recAt p i).params (recAt p i).body (recAt p i).scope pm code doc) ⟨xs, []⟩ = pure ((parsAt p i).zip xs))
    (h : ∃ a o pm code doc, g.mg (recAt p i).name = some (.ref a) ∧ g.base.get? a = some o ∧ o.data = .func (docDef (recAt p i).name (recAt p i).params (recAt p i).body (recAt p i).scope pm code doc) ∧ g.base.CodeRec code (recAt p i).name) :
    ∃ a, Fn g p i a := by
  obtain ⟨a, o, pm, code, doc, h1, h2, h3, h4⟩ := h
  refine ⟨a, h1, _, ⟨⟨o, h2, h3⟩, h4, rfl, rfl, rfl, rfl, rfl, P.kind, P.co, P.gen, P.nodup⟩, hbind pm code doc, fun x hx => ?_⟩
  have := List.all_eq_true.mp P.names x hx
  simpa using this
noncomputable def gdOf (prog : Program) (w : World) {p : Program} {loose : List Str} {mean : ExcName → Option Value} {mg mb : Str → Option Value} (s : Shared) (T : Top p loose mean mg mb s.heap) : Gd :=
  { prog := prog, w := w, base := s.heap, os := s.os, mg := mg, mb := mb, hmg := T.g, hmb := T.b, lim := T.nolimit, hbi := T.builtins }
theorem wellInts {P : Params} {h : Heap} : ∀ (xs : List Int) (vs : List Value), WellAll P h vs (ofPys (xs.map .int)) → RepL (fun a => h.get? a) (xs.map .int) vs := by
  intro xs
  induction xs with
  | nil => intro vs w; cases w; exact .nil
  | cons x xs ih =>
    intro vs w
    cases w with
    | cons a b => cases a; exact .cons (.int _ _) (ih _ b)
theorem free_of {p : Program} {loose : List Str} {mean : ExcName → Option Value} {mg mb : Str → Option Value} {prog : Program} {w : World} {s : Shared} (T : Top p loose mean mg mb s.heap)
    (key : ∀ x ∈ BI, x ∉ startupNames ∧ x ∉ loose ∧ x ∉ (recsOf p).map (·.name) ∧ x ∉ (litsOf p).map (·.1) ∧ x ∉ (clssOf p loose).map (·.name)) : Free (gdOf prog w s T) BI :=
  fun x hx => let ⟨a, b, c, d, e⟩ := key x hx; T.free x a b c d e
end PL

end
section
open PySem PySem.Calls PyProof.Rows
set_option Elab.async false
set_option linter.unusedVariables false
set_option linter.unusedSimpArgs false
set_option maxRecDepth 100000
namespace PL

theorem clamp_nat (n k : Nat) : (max 0 (min (k : Int) (n : Int))).toNat = min k n := by
  rcases Nat.le_total k n with h | h
  · rw [Int.min_eq_left (Int.ofNat_le.mpr h), Int.max_eq_right (Int.natCast_nonneg k), Int.toNat_natCast, Nat.min_eq_left h]
  · rw [Int.min_eq_right (Int.ofNat_le.mpr h), Int.max_eq_right (Int.natCast_nonneg n), Int.toNat_natCast, Nat.min_eq_right h]
theorem clip_nat (n k : Nat) : clipAt n (k : Int) = min k n := by
  unfold clipAt
  rw [if_neg (Int.not_lt.mpr (Int.natCast_nonneg k)), clamp_nat]
theorem sl_to {α : Type} (l : List α) (j : Nat) : sl l none (some (j : Int)) = l.take j := by
  simp only [sl, Option.elim_none, Option.elim_some, List.drop_zero, clip_nat, Nat.sub_zero]
  by_cases h : j ≤ l.length
  · rw [Nat.min_eq_left h]
  · rw [Nat.min_eq_right (by (first | lia | omega)), List.take_of_length_le (Nat.le_refl _), List.take_of_length_le (by (first | lia | omega))]
theorem sl_from {α : Type} (l : List α) (i : Nat) : sl l (some (i : Int)) none = l.drop i := by
  simp only [sl, Option.elim_none, Option.elim_some, clip_nat]
  by_cases h : i ≤ l.length
  · rw [Nat.min_eq_left h]; exact List.take_of_length_le (by simp)
  · rw [Nat.min_eq_right (by (first | lia | omega)), List.drop_eq_nil_of_le (by (clear h i; (first | lia | omega))), List.drop_eq_nil_of_le (by (first | lia | omega))]; simp
section
variable {C : Cx} {X : XP} {σ : St} {Q : V → St → Prop}
end
theorem joinS_nil : ∀ l : List Nat, joinS [] (l.map fun c => [c]) = l
  | [] => rfl
  | [c] => rfl
  | c :: d :: r => by
    show [c] ++ [] ++ joinS [] ((d :: r).map fun c => [c]) = _
    rw [joinS_nil (d :: r)]; rfl
theorem sum_ones (l : List Nat) : ((l.map fun c => [c]).map List.length).sum = l.length := by
  induction l with
  | nil => rfl
  | cons a r ih => simp only [List.map_cons, List.sum_cons, List.length_cons, ih, List.length_nil]; (clear ih a; (first | lia | omega))

mutual
theorem eqv_refl : ∀ {v : V}, plainV v = true → PyData.eqv (toD v) (toD v) = true
  | .none, _ => rfl
  | .bool b, _ => by simp [toD, PyData.eqv]
  | .int i, _ => by simp [toD, PyData.eqv]
  | .txt o l, _ => by simp [toD, PyData.eqv]
  | .tup vs, p => by simpa [toD, PyData.eqv] using eqvs_refl (by simpa [plainV] using p)
  | .lst vs, p => by simpa [toD, PyData.eqv] using eqvs_refl (by simpa [plainV] using p)
  | .ref _, p => by simp [plainV] at p
  | .con _, p => by simp [plainV] at p
  | .rng _ _ _, p => by simp [plainV] at p
  | .opq _, p => by simp [plainV] at p
theorem eqvs_refl : ∀ {vs : List V}, plainVs vs = true → PyData.eqvAll (toDs vs) (toDs vs) = true
  | [], _ => rfl
  | v :: r, p => by
    have p1 : plainV v = true ∧ plainVs r = true := by simpa [plainVs] using p
    simp [toDs, PyData.eqvAll, eqv_refl p1.1, eqvs_refl p1.2]
end
theorem plainVs_all : ∀ {vs : List V}, (∀ v ∈ vs, plainV v = true) → plainVs vs = true
  | [], _ => rfl
  | v :: r, h => by simp [plainVs, h v (by simp), plainVs_all fun x hx => h x (List.mem_cons_of_mem _ hx)]
theorem deepVs_le {n : Nat} : ∀ {vs : List V}, (∀ v ∈ vs, deepV v ≤ n) → deepVs vs ≤ n
  | [], _ => Nat.zero_le _
  | v :: r, h => by
    have h1 := h v (by simp)
    have h2 := deepVs_le (vs := r) fun x hx => h x (List.mem_cons_of_mem _ hx)
    simp [deepVs]; (clear h; (first | lia | omega))
section
variable {C : Cx} {X : XP} {σ : St} {Q : V → St → Prop}
end
theorem filterMap_some {α β : Type} (l : List α) (f : α → β) : l.filterMap (fun x => some (f x)) = l.map f := by
  induction l with
  | nil => rfl
  | cons a r ih => simp
theorem Le.both {L : List (Str × V)} {H : Led} {σ : St} {x : Str} {v : V} (h : Le ⟨L, H⟩ σ) : Le ⟨PL.setL L x v, H⟩ ⟨PL.setL σ.loc x v, σ.H⟩ := ⟨h.loc.set, h.led⟩
section
variable {C : Cx} {X : XP} {σ : St}
end
end PL

end
section
open PySem PySem.Calls PyProof.Rows
set_option Elab.async false
set_option linter.unusedVariables false
set_option linter.unusedSimpArgs false
set_option maxRecDepth 100000
namespace PL

theorem strsFrom_rep {z : Z} : ∀ (ps : List (List Nat)) (tk : Nat), RepL z (ps.map (.txt false)) (strsFrom tk (ps.map strOf))
  | [], tk => .nil
  | p :: r, tk => .cons (.str p tk) (strsFrom_rep r (tk + 1))
section
variable {prog : Program} {w : World} {A : Around} {E : Value → Shared → Prop} {s : Shared} {l : List Nat} {c : Nat} {t u : Tok}
theorem call_str_split {Q : Value → Shared → Prop} (hn : l.length ≤ 10000000)
    (h : ∀ xs k, (∀ z, RepL z ((splitS c l).map (.txt false)) xs) → Q (.ref s.heap.objs.size) { s with heap := s.heap.push (lstO xs 0), toks := k }) :
    wpAny (model prog w) A (call (.builtin "str.split") [.str ⟨l.toArray⟩ t, .str ⟨#[c]⟩ u]) Q E s := by
  have hs := str_split l c
  have hx : (⟨l.toArray⟩ : Str).length ≤ sizeLine := by rw [strlen]; exact size_ok (by (clear hs h Q; (first | lia | omega)))
  have hy : ((⟨#[c]⟩ : Str).length == 0) = false := rfl
  by_cases h1 : (decide ((⟨l.toArray⟩ : Str).length < (⟨#[c]⟩ : Str).length) || decide (Builtin.Str.strKind ⟨l.toArray⟩ < Builtin.Str.strKind ⟨#[c]⟩)) = true
  · have e : (splitS c l).map strOf = [⟨l.toArray⟩] := by rw [← hs]; unfold Txt.split; rw [if_pos h1]
    refine call_meets PySem.F.slot_str_split (typeIs_str _ _ _) PySem.F.entry_str_split (PySem.F.args_str_split_2 _ _) (meets_str_split_cannot_occur _ _ t u h1) ?_
    refine h [.str ⟨l.toArray⟩ t] s.toks fun z => ?_
    have e2 : splitS c l = [l] := by
      match hsp : splitS c l with
      | [] => exact absurd hsp (splitS_ne c l)
      | [p] => rw [hsp] at e; simp [strOf] at e; rw [e]
      | p :: q :: r => rw [hsp] at e; simp at e
    rw [e2]; exact .cons (.str l t) .nil
  · have h1' := Bool.not_eq_true _ ▸ h1
    have h1' : (decide ((⟨l.toArray⟩ : Str).length < (⟨#[c]⟩ : Str).length) || decide (Builtin.Str.strKind ⟨l.toArray⟩ < Builtin.Str.strKind ⟨#[c]⟩)) = false := by simpa using h1
    cases hf : (Builtin.Str.occurrences ⟨l.toArray⟩ ⟨#[c]⟩ 0 (⟨l.toArray⟩ : Str).length ((⟨l.toArray⟩ : Str).length + 1)).isEmpty with
    | true =>
      have e : (splitS c l).map strOf = [⟨l.toArray⟩] := by rw [← hs]; unfold Txt.split; rw [if_neg h1, if_pos hf]
      refine call_meets PySem.F.slot_str_split (typeIs_str _ _ _) PySem.F.entry_str_split (PySem.F.args_str_split_2 _ _) (meets_str_split_not_found _ _ t u h1' hy hf) ?_
      refine h [.str ⟨l.toArray⟩ t] s.toks fun z => ?_
      have e2 : splitS c l = [l] := by
        match hsp : splitS c l with
        | [] => exact absurd hsp (splitS_ne c l)
        | [p] => rw [hsp] at e; simp [strOf] at e; rw [e]
        | p :: q :: r => rw [hsp] at e; simp at e
      rw [e2]; exact .cons (.str l t) .nil
    | false =>
      have e : Builtin.Str.partsBetween ⟨l.toArray⟩ (Builtin.Str.occurrences ⟨l.toArray⟩ ⟨#[c]⟩ 0 (⟨l.toArray⟩ : Str).length ((⟨l.toArray⟩ : Str).length + 1)) (⟨#[c]⟩ : Str).length = (splitS c l).map strOf := by
        rw [← hs]; unfold Txt.split; rw [if_neg h1, if_neg (by rw [hf]; decide)]
      refine call_meets PySem.F.slot_str_split (typeIs_str _ _ _) PySem.F.entry_str_split (PySem.F.args_str_split_2 _ _) (meets_str_split_sep _ _ t u h1' hy hf hx ?_) ?_
      · rw [e, List.length_map]
        exact size_ok (Nat.le_trans (splitS_length c l) (by (first | lia | omega)))
      · rw [e]
        exact h _ _ fun z => strsFrom_rep (splitS c l) s.toks
end

section
variable {C : Cx} {X : XP} {σ : St} {Q : V → St → Prop}
theorem call_split {o : Bool} {l : List Nat} {c : Nat} (hn : l.length ≤ 10000000) (h : Q (.lst ((splitS c l).map (.txt o))) σ) : CallV C (.builtin (tyOf o ++ ".split")) [.txt o l, .txt o [c]] Q X σ := by
  refine CallV.toks fun z₀ zs z s xs hz hR r => ?_
  have fin : ∀ (ys : List Value) k, (∀ z, RepL z ((splitS c l).map (.txt o)) ys) →
      Post C zs z (PVal Q) (.ref s.heap.objs.size) { s with heap := s.heap.push (lstO ys 0), toks := k } := by
    intro ys k ry
    obtain ⟨R', le⟩ := hR.frozen (lstO ys 0) k
    exact ⟨_, _, le, R', _, .lst put_self (ry _), h⟩
  have rq := RepL.inv r; clear r; obtain ⟨_, _, rfl, r, t⟩ := rq
  have tq := RepL.inv t; clear t; obtain ⟨_, _, rfl, r2, t⟩ := tq
  cases t.inv0; clear t
  have rq := r.txt_; clear r; rcases rq with ⟨rfl, t, rfl⟩ | ⟨rfl, t, rfl, hl⟩
  · have r2q := r2.e; clear r2; obtain ⟨u, rfl⟩ := r2q
    exact call_str_split hn fin
  · have r2q := r2.e; clear r2; obtain ⟨u, rfl, hc⟩ := r2q
    exact call_bytes_split hl (hc c (by simp)) hn fin

theorem call_append {a : Addr} {vs : List V} {v : V} {H' : Led} (hu : Upd a (.list vs) (.list (vs ++ [v])) σ.H H') (hn : vs.length ≤ 16777216) (h : Q .none ⟨σ.loc, H'⟩) : CallV C (.builtin "list.append") [.ref a, v] Q X σ := by
  refine CallV.toks fun z₀ zs z s xs hz hR r => ?_
  have rq := RepL.inv r; clear r; obtain ⟨_, _, rfl, r, t⟩ := rq
  have tq := RepL.inv t; clear t; obtain ⟨_, _, rfl, r2, t⟩ := tq
  cases t.inv0; clear t; have rq := r.e; clear r; obtain ⟨_, rfl⟩ := rq
  obtain ⟨⟨items, n, e, rl⟩, _⟩ := hR.rh.hH _ hu.mem
  refine wpAny_list_append_plain (items := items.toArray) ⟨n, e⟩ (fun h' hp hs => ?_) (by rw [List.size_toArray, rl.length]; exact size_ok hn)
  obtain ⟨k, hk⟩ := hp
  exact ⟨z, _, Z.le_refl _, hR.upd hu (t := s.toks) hs ⟨items ++ [_], k, by rw [hk]; simp [lstO], rl.append (.cons r2 .nil)⟩, _, .none, h⟩
/-! methods of a list -/
theorem TE.appendM {e : Expr} {args : List Expr} {apos pos : Pos} (h : TE C e (fun ov σ1 => ∃ a vs, ov = .ref a ∧ (a, AO.list vs) ∈ σ1.H ∧ TArgs C args (fun us σ2 => ∃ v vs' H', us = [v] ∧ Upd a (.list vs') (.list (vs' ++ [v])) σ2.H H' ∧ vs'.length ≤ 16777216 ∧ Q .none ⟨σ2.loc, H'⟩) X σ1) X σ)
    (hp : (backTo pos (starEach args C.env)).any (·.1) = false := by rfl) (hb : attributeBase e "append" C.env (eval e C.env) = eval e C.env := by rfl)
    (hf : methodCallForm (args.length + 0) (backTo pos (starEach args C.env)) [] = true := by rfl) (hl : (apos.endLine == pos.line) = true := by rfl) : TE C (.Call (.Attribute e "append" apos) args [] pos) Q X σ := by
  refine TE.meth (id := "list.append") (h.mono ?_) hp hb hf hl
  rintro ov σ1 ⟨a, vs, rfl, hm, h⟩
  refine ⟨Meth.list (.mt hm) PySem.F.slot_list_append PySem.F.type_list_append, fun p z₀ => (h p z₀).mono ?_⟩
  rintro z xs σ2 _ ⟨us, r, v, vs', H', rfl, hu, hn, q⟩
  exact ⟨_, r, call_append hu hn q⟩
theorem TE.split (o : Bool) {e : Expr} {args : List Expr} {apos pos : Pos} (h : TE C e (fun ov σ1 => ∃ l, ov = .txt o l ∧ TArgs C args (fun vs σ2 => ∃ c, vs = [.txt o [c]] ∧ l.length ≤ 10000000 ∧ Q (.lst ((splitS c l).map (.txt o))) σ2) X σ1) X σ)
    (hp : (backTo pos (starEach args C.env)).any (·.1) = false := by rfl) (hb : attributeBase e "split" C.env (eval e C.env) = eval e C.env := by rfl)
    (hf : methodCallForm (args.length + 0) (backTo pos (starEach args C.env)) [] = true := by rfl) (hl : (apos.endLine == pos.line) = true := by rfl) : TE C (.Call (.Attribute e "split" apos) args [] pos) Q X σ := by
  refine TE.meth (id := tyOf o ++ ".split") (h.mono ?_) hp hb hf hl
  rintro ov σ1 ⟨l, rfl, h⟩
  refine ⟨Meth.split, fun p z₀ => (h p z₀).mono ?_⟩
  rintro z xs σ2 _ ⟨vs, r, c, rfl, hn, q⟩
  exact ⟨_, r, call_split hn q⟩

/-! unpacking -/
noncomputable def TIn (C : Cx) (ts : List Expr) (vs : List V) (Q : St → Prop) (X : XP) (σ : St) : Prop := ∀ z₀ xs, RepL z₀ vs xs → TT C z₀ (assignInOrder ((assignEach ts C.env).map (·.2)) xs) (fun _ _ σ' => Q σ') X σ
theorem TIn.nil {Q : St → Prop} (h : Q σ) : TIn C [] [] Q X σ := fun z₀ xs r => by cases r.inv0; exact TT.pure fun _ _ => h
theorem TIn.cons {t : Expr} {ts : List Expr} {v : V} {vs : List V} {Q : St → Prop} (h : TAs C t v (fun σ1 => TIn C ts vs Q X σ1) X σ)
    (he : assignEach (t :: ts) C.env = (false, assign t C.env) :: assignEach ts C.env := by rfl) : TIn C (t :: ts) (v :: vs) Q X σ := by
  intro z₀ xs r
  have rq := RepL.inv r; clear r; obtain ⟨_, _, rfl, rv, rt⟩ := rq
  rw [he]
  show TT C z₀ (do holding _ (assign t C.env _); assignInOrder ((assignEach ts C.env).map (·.2)) _) _ X σ
  refine TT.bind (TT.holding (TT.mono (h z₀ _ rv) ?_))
  rintro z ⟨⟩ σ1 l h1
  exact h1 z _ (rt.mono l)
theorem TAs.tuple {ts : List Expr} {k : Nat} {p : Pos} {vs : List V} {Q : St → Prop} (hh : C.A.handled = none) (hn : ts.length = vs.length) (h : TIn C ts vs Q X σ)
    (he : (assignEach ts C.env).length = ts.length := by rfl) (hstar : (assignEach ts C.env).findIdx? (·.1) = none := by rfl) : TAs C (.Tuple ts k p) (.tup vs) Q X σ := by
  intro z₀ x r zs z s hz hR
  obtain ⟨a, items, n, rfl, e, rl⟩ := rep_tupO (r.mono hz) hR
  refine wpAny_assign_Tuple hh (isTuple_of e) (by rw [he, hn, List.size_toArray, rl.length]) hstar fun h' hx => ?_
  have R' : R C zs σ z { s with heap := h' } := hR.grow (t := s.toks) fun b o eb => hx b o (Nat.ne_of_lt (Heap.lt_size eb)) eb
  exact h z _ rl zs z _ (Z.le_refl _) R'
theorem TS.assignTo {t e : Expr} {p : Pos} {Q : Fl → St → Prop} (h : TE C e (fun v σ1 => TAs C t v (fun σ2 => Q .next σ2) X σ1) X σ)
    (he : (assignEach [t] C.env).map (·.2) = [PySem.assign t C.env] := by rfl) (hs : swapsWithSole [t] e p.line C.env = Pure.pure false := by rfl) (hw : swappedStores [t] e C.env = Pure.pure none := by rfl) : TS C (.Assign [t] e p) Q X σ := by
  intro z₀ zs z s hz hR
  refine wpAny_Assign_stores ?_ hs hw
  refine wpAny_mono (h z₀ zs z s hz hR) ?_ fun _ _ x => x
  rintro v s1 ⟨z1, σ1, l1, R1, u, ru, h1⟩
  rw [he]
  refine wpAny_mono (h1 z1 v ru zs z1 s1 (Z.le_refl _) R1) ?_ fun _ _ x => PX.le l1 x
  rintro ⟨⟩ s2 ⟨z2, σ2, l2, R2, q⟩
  exact ⟨z2, σ2, Z.le_trans l1 l2, R2, .next, .next, q⟩
end
end PL

end
section
open PySem PySem.Calls PyProof.Rows
set_option Elab.async false
set_option linter.unusedVariables false
set_option linter.unusedSimpArgs false
set_option maxRecDepth 100000
namespace PL
section
variable {C : Cx} {X : XP} {σ : St}
end
/-! what the path functions answer -/
end PL

end
section
open PySem PySem.Calls PyProof.Rows
set_option Elab.async false
set_option linter.unusedVariables false
set_option linter.unusedSimpArgs false
set_option maxRecDepth 100000
namespace PL
section
variable {C : Cx} {X : XP} {σ : St} {Q : V → St → Prop}
/-- two lists, one behind the other: a new one, frozen -/
theorem Bin.add_list {v w : V} {vs ws : List V} (k : IsL σ v vs) (k2 : IsL σ w ws) (hn : vs.length + ws.length ≤ 16777216) (h : Q (.lst (vs ++ ws)) σ) : Bin C .Add v w Q X σ := by
  intro z₀ x y rx ry zs z s hz hR
  obtain ⟨a, items, n, rfl, p, q⟩ := k.obj rx hz hR
  obtain ⟨b, items2, n2, rfl, p2, q2⟩ := k2.obj ry hz hR
  refine PySem.P.add_list (n := n) (n2 := n2) p p2 ?_ (by rw [List.size_toArray, List.size_toArray, q.length, q2.length]; exact size_ok hn)
  rw [List.append_toArray]
  obtain ⟨R', le⟩ := hR.frozen (lstO (items ++ items2) 0) s.toks
  exact ⟨_, _, le, R', _, .lst put_self ((q.append q2).mono le), h⟩

theorem readsL {v : V} {vs : List V} (k : IsL σ v vs) {z₀ z zs : Z} {s : Shared} {x : Value} (r : Rep z₀ v x) (hz : Z.le z₀ z) (hR : R C zs σ z s) (p : plainVs vs = true) : ∃ as, Reads s.heap x (.list (toDs vs)) as := by
  obtain ⟨a, items, n, rfl, e, q⟩ := k.obj r hz hR
  obtain ⟨as, ra⟩ := reads_ofs hR.rh.hz q p
  exact ⟨_, .list e rfl rfl (by simpa using ra)⟩
theorem shapedL {vs : List V} (ha : plainVs vs = true) (da : deepVs vs ≤ 63) : SeqAt.shaped (.list (toDs vs)) = true := by
  have h1 := canLay_of (v := .lst vs) (by simpa [plainV] using ha)
  have h2 := depth_of (.lst vs)
  have h3 : deepV (.lst vs) ≤ 64 := by show deepVs vs + 1 ≤ 64; (clear h2 h1 ha; (first | lia | omega))
  unfold SeqAt.shaped
  rw [show (PyData.list (toDs vs)).canLay0 = true from h1, show (PyData.list (toDs vs)).depth = deepV (.lst vs) from h2]
  simp [h3]
theorem Cmp.eq_list {v w : V} {vs ws : List V} (k : IsL σ v vs) (k2 : IsL σ w ws) (ha : plainVs vs = true) (hb : plainVs ws = true) (da : deepVs vs ≤ 63) (db : deepVs ws ≤ 63) (h : Q (.bool (PyData.eqvAll (toDs vs) (toDs ws))) σ) : Cmp C .Eq v w Q X σ := by
  intro z₀ x y rx ry zs z s hz hR
  obtain ⟨as, ra⟩ := readsL k rx hz hR ha
  obtain ⟨bs, rb⟩ := readsL k2 ry hz hR hb
  have hu := C.hunits
  exact eq_dataH ra rb (shapedL ha da) (shapedL hb db) (by show _ < 9900; (clear rb bs ra as hR hz s z zs ry rx y x z₀ h db da hb ha k2 k w v ws vs; (first | lia | omega))) (PVal.same hR (.bool _) h)
end
end PL

end
section
open PySem PySem.Calls PyProof.Rows
set_option Elab.async false
set_option linter.unusedVariables false
set_option linter.unusedSimpArgs false
namespace PL
/-! plain laws of normpath -/
end PL

end
section
open PySem PySem.Calls PyProof.Rows
set_option Elab.async false
set_option linter.unusedVariables false
set_option linter.unusedSimpArgs false
set_option maxRecDepth 100000
namespace PL
section
variable {C : Cx} {X : XP} {σ : St}
theorem swaps_comp {elt : Expr} {gens : List Comprehension} {scope : Scope} {pos p : Pos} {x : Str} {n : Nat} {env : Env} :
    swapsWith (.ListComp elt gens scope pos) (some (.Name x p)) n env = pure (env.blockKind == .function && env.kindOf x == some .local && p.line == pos.line && !(scope.names.any fun (n, k) => n == x && (k == .local || k == .cell))) := rfl
/-- `x = [comp]` on one line, x local -/
theorem TS.assignComp {g : Gd} {n : Nat} {sc scope : Scope} {elt target iter : Expr} {ifs : List Expr} {pos p p' : Pos} {x : Str} {Q : Fl → St → Prop} (hIn : In C g n sc) (K : CompOK scope sc) (hk : sc.names.lookup x = some .local)
    (hl : (p'.line == pos.line) = true) (hn : (scope.names.any fun (n, k) => n == x && (k == .local || k == .cell)) = false)
    (h : TE C iter (CompH C g n sc scope target ifs elt fun σ1 ys H0 =>
      (Q .next ⟨setL σ1.loc x (.lst (ys)), H0⟩ ∨ ∀ a, Q .next ⟨setL σ1.loc x (.ref a), (a, .list (ys)) :: H0⟩)) X σ)
    (hs : ∀ x, foldedSetIterable iter C.env x = Pure.pure x := by intro _; rfl) : TS C (.Assign [.Name x p'] (.ListComp elt [⟨target, iter, ifs, 0⟩] scope pos) p) Q X σ := by
  intro z₀
  rw [exec_Assign_arm]
  refine TT.at_ ?_
  have e1 : swapsWithSole [Expr.Name x p'] (.ListComp elt [⟨target, iter, ifs, 0⟩] scope pos) p.line C.env = Pure.pure true := by
    have e0 : swapsWithSole [Expr.Name x p'] (.ListComp elt [⟨target, iter, ifs, 0⟩] scope pos) p.line C.env = swapsWith (.ListComp elt [⟨target, iter, ifs, 0⟩] scope pos) (some (.Name x p')) p.line C.env := by unfold swapsWithSole; rfl
    rw [e0, swaps_comp, hn, hl, (hIn.kind x).trans hk]
    have : (C.env.blockKind == ScopeKind.function) = true := by
      unfold Env.blockKind; rw [C.hk]; rfl
    rw [this]; rfl
  rw [e1]
  refine TT.bind (TT.pure fun z hz => ?_)
  refine TT.bind (m := evalThenUse _ _ _) (f := fun _ => Pure.pure Flow.next) ?_
  show TT C z (do let _ ← comprehension _ _ _ _ _ _ _ (some (PySem.assign (Expr.Name x p') C.env)); Pure.pure ()) _ X σ
  refine TT.bind (TT.mono (TT.listcompU (Q := fun σ' => Q .next σ') hIn K (h.mono ?_) hs) ?_)
  · rintro v σ1 ⟨α, xs, φ, f, L, H0, S, h1, h2, h3, h4, h5, h6, h7⟩
    exact ⟨α, xs, φ, f, L, H0, S, h1, h2, h3, h4, h5, h6, h7.imp (fun q => TAs.name (hIn.stL hk) q) fun q a => TAs.name (hIn.stL hk) (q a)⟩
  · intro z v σ' l q
    exact TT.pure fun z' _ => TT.pure fun z'' _ => ⟨.next, .next, q⟩
end
end PL

end
section
open PySem PySem.Calls PyProof.Rows
set_option Elab.async false
set_option linter.unusedVariables false
set_option linter.unusedSimpArgs false
set_option maxRecDepth 100000
namespace PL
section
variable {K : Type} [DecidableEq K]
end

section
variable {C : Cx} {X : XP} {σ : St} {Q : V → St → Prop} {K : Type} [DecidableEq K] {a : Addr} {kvs : List (K × V)} {knd : KeyKind C.g.prog C.g.w K} {kv : V} {k : K}
end
end PL

end
section
open PySem PySem.Calls PyProof.Rows
set_option Elab.async false
set_option linter.unusedVariables false
set_option linter.unusedSimpArgs false
set_option linter.unusedSectionVars false
set_option maxRecDepth 100000
namespace PL
/-! a live list is frozen -/
inductive Rem (a : Addr) (o : AO) : Led → Led → Prop
  | head {t : Led} : Rem a o ((a, o) :: t) t
  | tail {p : Addr × AO} {t t' : Led} (h : Rem a o t t') : Rem a o (p :: t) (p :: t')
theorem Rem.mem {a : Addr} {o : AO} {H H' : Led} (u : Rem a o H H') : (a, o) ∈ H := by
  induction u with
  | head => exact List.mem_cons_self
  | tail _ ih => exact List.mem_cons_of_mem _ ih
theorem Rem.sub {a : Addr} {o : AO} {H H' : Led} (u : Rem a o H H') : H'.Sublist H := by
  induction u with
  | head => exact List.sublist_cons_self _ _
  | tail _ ih => exact ih.cons_cons _
theorem Rem.out {a : Addr} {o : AO} {H H' : Led} (u : Rem a o H H') (hn : (H.map (·.1)).Nodup) : a ∉ H'.map (·.1) := by
  induction u with
  | head => rw [List.map_cons, List.nodup_cons] at hn; exact hn.1
  | tail u' ih =>
    rw [List.map_cons, List.nodup_cons] at hn
    rw [List.map_cons, List.mem_cons]
    rintro (e | e)
    · exact hn.1 (e ▸ List.mem_map_of_mem (f := (·.1)) u'.mem)
    · exact ih hn.2 e
section
variable {C : Cx} {X : XP} {σ : St} {Q : V → St → Prop} {zs z : Z} {s : Shared}
theorem R.freezeL (hR : R C zs σ z s) {a : Addr} {vs : List V} {H' : Led} (u : Rem a (.list vs) σ.H H') : ∃ z', Z.le z z' ∧ R C zs ⟨σ.loc, H'⟩ z' s ∧ Rep z' (.lst vs) (.ref a) := by
  obtain ⟨⟨items, n, e, rl⟩, h0, h1⟩ := hR.rh.hH _ u.mem
  have hk : a ∈ σ.H.map (·.1) := List.mem_map_of_mem (f := (·.1)) u.mem
  have hR' : R C zs ⟨σ.loc, H'⟩ z s := hR.weaken (fun _ _ h => h) u.sub
  have ap : Apart C zs ⟨σ.loc, H'⟩ a := ⟨h1, fun q => hR.locFree.2.2 (q ▸ hk), u.out hR.rh.nodup, fun p hp q => (hR.cellsOk p hp).2.2.2.2 (q ▸ hk)⟩
  have le := Z.le_put hR'.rh e
  exact ⟨_, le, hR'.freeze e ap, .lst put_self (rl.mono le)⟩
theorem TE.freeze {e : Expr} (h : TE C e (fun v σ1 => ∃ a vs H', v = .ref a ∧ Rem a (.list vs) σ1.H H' ∧ Q (.lst vs) ⟨σ1.loc, H'⟩) X σ) : TE C e Q X σ := by
  intro z₀ zs z s hz hR
  refine wpAny_mono (h z₀ zs z s hz hR) ?_ fun _ _ x => x
  rintro v s1 ⟨z1, σ1, l1, R1, _, rv, a, vs, H', rfl, u, q⟩
  have rvq := rv.e; clear rv; obtain ⟨_, rfl⟩ := rvq
  obtain ⟨z2, l2, R2, r2⟩ := R1.freezeL u
  exact ⟨z2, _, Z.le_trans l1 l2, R2, _, r2, q⟩
/-! lists: a new live one -/
theorem CallV.fresh {zs z : Z} {s : Shared} (hR : R C zs σ z s) {h' : Heap} {t n : Nat} {items : List Value} {vs : List V} (k : ∀ b o, s.heap.get? b = some o → h'.get? b = some o) (e : h'.get? s.heap.objs.size = some (lstO items n)) (rl : RepL z vs items)
    (h : ∀ a, Q (.ref a) ⟨σ.loc, (a, .list vs) :: σ.H⟩) : Post C zs z (PVal Q) (.ref s.heap.objs.size) { s with heap := h', toks := t } := by
  have R' := hR.grow (t := t) k
  refine ⟨z, ⟨σ.loc, (s.heap.objs.size, .list vs) :: σ.H⟩, Z.le_refl _, R'.ledger (a := s.heap.objs.size) (o := .list vs) ⟨items, n, e, rl⟩ (hR.rh.fresh_z (Nat.le_refl _)) ?_, _, .ref _, h _⟩
  exact hR.apart_new (Nat.le_refl _)
end
end PL

end
section
open PySem PySem.Calls PyProof.Rows
set_option Elab.async false
set_option linter.unusedVariables false
set_option linter.unusedSimpArgs false
set_option linter.unusedSectionVars false
set_option maxRecDepth 100000
namespace PL
section
variable {C : Cx} {X : XP} {σ : St} {Q : V → St → Prop} {zs z : Z} {s : Shared}
/-! `list(range(a, b))` -/
/-! `x in list` -/
/-! `l += m` -/
end
end PL

end
section
open PySem PySem.Calls PyProof.Rows
set_option Elab.async false
set_option linter.unusedVariables false
set_option linter.unusedSimpArgs false
set_option linter.unusedSectionVars false
set_option maxRecDepth 100000
namespace PL
section
variable {C : Cx} {X : XP} {σ : St} {Q : V → St → Prop} {zs z : Z} {s : Shared}
/-! places from the end -/
/-! `d.get(k, other)` -/
/-! `str(n)` -/
end
end PL

end
section
open PySem PySem.Calls PyProof.Rows
set_option Elab.async false
set_option linter.unusedVariables false
set_option linter.unusedSimpArgs false
set_option linter.unusedSectionVars false
set_option maxRecDepth 100000
namespace PL
/-! a number's signs -/
/-! a text read sign by sign -/
noncomputable def bump (ps : List (List Nat)) (x : Nat) : List (List Nat) := ps.set (ps.length - 1) ((ps[ps.length - 1]?).getD [] ++ [x])
theorem bump_cons (p : List Nat) {ps : List (List Nat)} (h : ps ≠ []) (x : Nat) : bump (p :: ps) x = p :: bump ps x := by
  unfold bump
  obtain ⟨n, e⟩ : ∃ n, ps.length = n + 1 := ⟨ps.length - 1, by have := List.length_pos_iff.mpr h; (clear x h p; (first | lia | omega))⟩
  simp [e]
theorem splitS_snoc (c : Nat) (x : Nat) : ∀ l : List Nat, splitS c (l ++ [x]) = if x = c then splitS c l ++ [[]] else bump (splitS c l) x
  | [] => by
    simp only [List.nil_append, splitS, bump]
    split <;> simp
  | y :: l => by
    have ih := splitS_snoc c x l
    have hne := splitS_ne c l
    rw [List.cons_append]
    unfold splitS
    by_cases hy : y = c
    · rw [if_pos hy, if_pos hy, ih]
      by_cases hx : x = c
      · rw [if_pos hx, if_pos hx]; rfl
      · rw [if_neg hx, if_neg hx, bump_cons _ hne]
    · rw [if_neg hy, if_neg hy, ih]
      obtain ⟨p, ps, e⟩ : ∃ p ps, splitS c l = p :: ps := by
        cases h : splitS c l with
        | nil => exact absurd h hne
        | cons p ps => exact ⟨p, ps, rfl⟩
      rw [e]
      by_cases hx : x = c
      · rw [if_pos hx, if_pos hx]; rfl
      · rw [if_neg hx, if_neg hx]
        cases ps with
        | nil => simp [bump]
        | cons q qs =>
          show (match bump (p :: q :: qs) x with | [] => [[y]] | p :: ps => (y :: p) :: ps) = bump ((y :: p) :: q :: qs) x
          have h : q :: qs ≠ [] := List.cons_ne_nil _ _
          rw [bump_cons _ h, bump_cons _ h]
end PL

end
section
open PySem PySem.Calls PyProof.Rows
set_option Elab.async false
set_option linter.unusedVariables false
set_option linter.unusedSimpArgs false
set_option linter.unusedSectionVars false
set_option maxRecDepth 100000
namespace PL
/-! normal forms -/
end PL

end
section
open PySem PySem.Calls PyProof.Rows
set_option Elab.async false
set_option linter.unusedVariables false
set_option linter.unusedSimpArgs false
set_option linter.unusedSectionVars false
set_option maxRecDepth 100000
namespace PL
section
variable {K : Type} [DecidableEq K]
end
end PL

end
section
open PySem PySem.Calls PyProof.Rows
set_option Elab.async false
set_option linter.unusedVariables false
set_option linter.unusedSimpArgs false
set_option linter.unusedSectionVars false
set_option maxRecDepth 100000
namespace PL
/-! displays of written numbers -/
section
variable {C : Cx} {X : XP} {σ : St}
end
end PL

end
section
open PySem PySem.Calls PyProof.Rows
set_option Elab.async false
set_option linter.unusedVariables false
set_option linter.unusedSimpArgs false
set_option linter.unusedSectionVars false
set_option maxRecDepth 100000
namespace PL
section
open Builtin
end
section
variable {C : Cx} {X : XP} {σ : St} {Q : V → St → Prop} {o : Bool} {l m : List Nat} {c : Nat}
/-- a try whose body does not raise -/
theorem TS.tryOK {body orelse : List Stmt} {h₀ : ExceptHandler} {hs : List ExceptHandler} {pos : Pos} {Q : Fl → St → Prop} (h : TSs C body (Nx C orelse Q X) X0 σ) : TS C (.Try body (h₀ :: hs) orelse [] pos) Q X σ := by
  intro z₀ zs z s hz hR
  refine wpAny_Try_except ?_
  refine wpAny_mono (h z₀ zs z s hz hR) ?_ fun _ _ x => x.absurd
  rintro f s1 ⟨z1, σ1, l1, R1, fl, rf, q⟩
  cases rf with
  | next =>
    refine wpAny_mono (q z1 zs z1 s1 (Z.le_refl _) R1) ?_ fun _ _ x => PX.le l1 x
    rintro f s2 ⟨z2, σ2, l2, R2, q2⟩
    exact ⟨z2, σ2, Z.le_trans l1 l2, R2, q2⟩
  | brk => exact ⟨z1, σ1, l1, R1, .brk, .brk, q⟩
  | cont => exact ⟨z1, σ1, l1, R1, .cont, .cont, q⟩
  | ret rv => exact ⟨z1, σ1, l1, R1, .ret _, .ret rv, q⟩
end
end PL

end
section
open PySem PySem.Calls PyProof.Rows
set_option Elab.async false
set_option linter.unusedVariables false
set_option linter.unusedSimpArgs false
set_option linter.unusedSectionVars false
set_option maxRecDepth 100000
namespace PL
/-! what join answers -/
section
variable {C : Cx} {X : XP} {σ : St} {zs z z₀ : Z} {I : Addr} {vs : List V} {S : Led → Prop} {J : Nat → Obj → Prop} {E : Value → Shared → Prop}
end
section
variable {C : Cx} {X : XP} {σ : St}
/-! the same rules, their side facts as goals (for `with_reducible`) -/
theorem TArgs.consR {e : Expr} {r : List Expr} {Q : List V → St → Prop} (he : starEach (e :: r) C.env = (false, eval e C.env) :: starEach r C.env) (h : TE C e (fun v σ1 => TArgs C r (fun vs σ2 => Q (v :: vs) σ2) X σ1) X σ) : TArgs C (e :: r) Q X σ := TArgs.cons h he
theorem TS.exprR {e : Expr} {pos : Pos} {Q : Fl → St → Prop} (hs : swapsWith e none pos.line C.env = pure false) (h : TE C e (fun _ σ1 => Q .next σ1) X σ) : TS C (.Expr e pos) Q X σ := TS.expr h hs
end
end PL

end
section
open PySem PySem.Calls PyProof.Rows PySem.SeqAt
set_option Elab.async false
set_option linter.unusedVariables false
set_option linter.unusedSimpArgs false
set_option linter.unusedSectionVars false
set_option maxRecDepth 100000
namespace PL
/-! equality of flat data: truth values, numbers, texts of one kind, lists of these -/
section
variable {C : Cx} {X : XP} {σ : St} {Q : V → St → Prop}
end
section
variable {C : Cx} {X : XP} {σ : St} {Q : V → St → Prop}
end
end PL

end
section
open PySem PySem.Calls PyProof.Rows PySem.SeqAt
open MeetsSeq MeetsSeq2 MeetsSeq3 SeqRoads2
open AutoSeq1 (wpAny_loadPart')
set_option Elab.async false
set_option linter.unusedVariables false
set_option linter.unusedSimpArgs false
set_option linter.unusedSectionVars false
set_option maxRecDepth 100000
namespace PL
/-! order of texts and of lists of texts -/
namespace BF
end BF
section
open Builtin
end
section
variable {prog : Program} {w : World} {A : Around} {R : Result → Shared → Prop}
end
section
variable {prog : Program} {w : World} {A : Around} {E : Value → Shared → Prop} {s : Shared}
end
section
variable {C : Cx} {X : XP} {σ : St} {Q : V → St → Prop}
end
end PL

end
section
open PySem PySem.Calls PyProof.Rows
open AutoSeq1 (wpAny_loadPart')
set_option Elab.async false
set_option linter.unusedVariables false
set_option linter.unusedSimpArgs false
set_option linter.unusedSectionVars false
set_option maxRecDepth 100000
namespace PL
/-! map -/
namespace BF
end BF
section
variable {prog : Program} {w : World} {A : Around} {E : Value → Shared → Prop} {s : Shared}
end
section
variable {prog : Program} {w : World} {A : Around} {R : Result → Shared → Prop}
end
section
variable {prog : Program} {w : World} {A : Around} {E : Value → Shared → Prop} {s : Shared}
end
end PL

end
section
open PySem PySem.Calls PyProof.Rows
set_option Elab.async false
set_option linter.unusedVariables false
set_option linter.unusedSimpArgs false
set_option linter.unusedSectionVars false
set_option maxRecDepth 100000
namespace PL
/-! the same frame, seen from inside a builtin -/
section
variable {C : Cx} {zs z : Z} {σ : St} {s : Shared} {A' : Around} {m : Nat} {hd : A'.depth + m ≤ 900} {hu : A'.units + 20 * m ≤ 9000} {hf : A'.frames = C.A.frames}
end
section
variable {C : Cx} {X : XP} {σ : St}
end
end PL

end
section
open PySem PySem.Calls PyProof.Rows
set_option Elab.async false
set_option linter.unusedVariables false
set_option linter.unusedSimpArgs false
set_option linter.unusedSectionVars false
set_option maxRecDepth 100000
namespace PL
/-! a loop over enumerate of a list -/
section
variable {C : Cx} {X : XP} {σ : St} {zs z : Z} {s : Shared}
end
end PL

end
section
open PySem PySem.Calls PyProof.Rows
set_option Elab.async false
set_option linter.unusedVariables false
set_option linter.unusedSimpArgs false
set_option linter.unusedSectionVars false
set_option maxRecDepth 100000
namespace PL
/-! sets of truth values -/
section
variable {prog : Program} {w : World} {A : Around} {E : Value → Shared → Prop} {s : Shared}
end
section
variable {prog : Program} {w : World} {A : Around} {E : Value → Shared → Prop} {s : Shared}
end
end PL

end
section
open PySem PySem.Calls PyProof.Rows
set_option Elab.async false
set_option linter.unusedVariables false
set_option linter.unusedSimpArgs false
set_option linter.unusedSectionVars false
set_option maxRecDepth 100000
namespace PL
/-! exceptions: made, caught, passed on -/
section
variable {g : Gd} {zs : Z} {H : Led} {z : Z} {s : Shared}
end
section
variable {C : Cx} {zs z : Z} {σ : St} {s : Shared}
end
/-! raw steps of an exception in its frame -/
section
variable {M : Model} {A : Around} {E : Value → Shared → Prop} {s : Shared}
end
/-! the exception caught: its record and its traceback entry are hidden -/
section
variable {C : Cx} {zs z : Z} {σ : St} {s : Shared} {a T : Addr} {oe oT : Obj} {vs ts : Array Value} {cls : String}
end
end PL

end
section
open PySem PySem.Calls PyProof.Rows
set_option Elab.async false
set_option linter.unusedVariables false
set_option linter.unusedSimpArgs false
set_option linter.unusedSectionVars false
set_option maxRecDepth 100000
namespace PL
/-! try -/
section
variable {C : Cx} {zs z : Z} {σ : St} {s : Shared} {cls : String} {E : Value → Shared → Prop} {Q : Unit → Shared → Prop}
end
section
variable {C : Cx} {zs z : Z} {σ : St} {s : Shared} {cls : String} {a : Addr}
end
end PL

end
section
open PySem PySem.Calls PyProof.Rows
set_option Elab.async false
set_option linter.unusedVariables false
set_option linter.unusedSimpArgs false
set_option linter.unusedSectionVars false
set_option maxRecDepth 100000
namespace PL
/-! a set of truth values, comprehended -/
section
variable {prog : Program} {w : World} {A : Around} {R : Result → Shared → Prop} {s : Shared}
end
section
variable {C : Cx} {X : XP} {σ : St}
end
end PL

end
section
open PySem PySem.Calls PyProof.Rows
set_option Elab.async false
set_option linter.unusedVariables false
set_option linter.unusedSimpArgs false
set_option linter.unusedSectionVars false
set_option maxRecDepth 100000
namespace PL
/-! the iterator of a set of truth values -/
section
variable {prog : Program} {w : World} {A : Around} {E : Value → Shared → Prop} {s : Shared}
end
end PL

end
section
open PySem PySem.Calls PyProof.Rows
set_option Elab.async false
set_option linter.unusedVariables false
set_option linter.unusedSimpArgs false
set_option linter.unusedSectionVars false
set_option maxRecDepth 100000
namespace PL
/-! one name takes the one item of a set of truth values; a raise in a handler -/
section
variable {prog : Program} {w : World} {A : Around} {E : Value → Shared → Prop} {s : Shared}
end
/-! the statement itself -/
section
variable {C : Cx} {X : XP} {σ : St}

end
end PL

end
section
open PySem PySem.Calls PyProof.Rows
set_option Elab.async false
set_option linter.unusedVariables false
set_option linter.unusedSimpArgs false
set_option linter.unusedSectionVars false
namespace PL
/-! what commonpath answers -/
section
variable {C : Cx} {X : XP} {σ : St} {Q : V → St → Prop} {g : Gd} {n : Nat} {sc : Scope}
end
/-! the order -/
end PL

end
section
open PySem PySem.Calls PyProof.Rows
set_option Elab.async false
set_option linter.unusedVariables false
set_option linter.unusedSimpArgs false
set_option linter.unusedSectionVars false
set_option maxRecDepth 100000
namespace PL
section
variable {prog : Program} {w : World} {A : Around} {E : Value → Shared → Prop} {s : Shared}
end
section
variable {C : Cx} {X : XP} {σ : St} {Q : V → St → Prop}
end
end PL

end
section
open PySem PySem.Calls PyProof.Rows
set_option Elab.async false
set_option linter.unusedVariables false
set_option linter.unusedSimpArgs false
set_option linter.unusedSectionVars false
set_option maxRecDepth 100000
namespace PL
/-! where one stands -/
noncomputable def consP (x : Nat) : List (List Nat) → List (List Nat)
  | [] => [[x]]
  | p :: ps => (x :: p) :: ps
theorem splitS_consE (c x : Nat) (r : List Nat) : splitS c (x :: r) = if x = c then [] :: splitS c r else consP x (splitS c r) := by
  show (if x = c then _ else _) = _
  split
  · rfl
  · cases splitS c r <;> rfl
/-! one step -/
/-! how many slashes are ahead -/
end PL

end
section
open PySem PySem.Calls PyProof.Rows
set_option Elab.async false
set_option linter.unusedVariables false
set_option linter.unusedSimpArgs false
set_option linter.unusedSectionVars false
set_option maxRecDepth 100000
namespace PL
/-! the tree of places below a root -/
noncomputable abbrev Lc := List (List (List Nat))
end PL

end
section
open PySem PySem.Calls PyProof.Rows
set_option Elab.async false
set_option linter.unusedVariables false
set_option linter.unusedSimpArgs false
set_option linter.unusedSectionVars false
set_option maxRecDepth 100000
namespace PL
/-! several names at once, and a starred argument -/
section
variable {C : Cx} {X : XP} {σ : St} {g : Gd} {n : Nat} {sc : Scope}
end
end PL

end
section
open PySem PySem.Calls PyProof.Rows
set_option Elab.async false
set_option linter.unusedVariables false
set_option linter.unusedSimpArgs false
set_option linter.unusedSectionVars false
set_option maxRecDepth 100000
namespace PL
/-! slices: all but the last, turned round -/
section
variable {C : Cx} {X : XP} {σ : St} {Q : V → St → Prop}
/-- an item by a number that is no less than nought; by -1 -/
theorem Item.listN {v : V} {vs : List V} {j : Nat} {u : V} (hl : IsL σ v vs) (hn : vs.length ≤ 16777216) (hu : vs[j]? = some u) (h : Q u σ) : Item C v (.int (j : Int)) Q X σ :=
  Item.list hl hn ⟨if_neg (Int.not_lt.mpr (Int.natCast_nonneg j)), (List.getElem?_eq_some_iff.mp hu).1⟩ hu h
theorem Item.listZ {v : V} {vs : List V} {k : Nat} {u : V} (hl : IsL σ v vs) (hn : vs.length ≤ 16777216) (hk : vs.length = k + 1) (hu : vs[k]? = some u) (h : Q u σ) : Item C v (.int (-1)) Q X σ :=
  Item.list (j := k) hl hn ⟨by rw [if_pos (by decide), hk]; (clear h hu hk hn hl u v vs; (first | lia | omega)), (List.getElem?_eq_some_iff.mp hu).1⟩ hu h
theorem Item.tupN {vs : List V} {j : Nat} {u : V} (hn : vs.length ≤ 16777216) (hu : vs[j]? = some u) (h : Q u σ) : Item C (.tup vs) (.int (j : Int)) Q X σ :=
  Item.tup hn ⟨if_neg (Int.not_lt.mpr (Int.natCast_nonneg j)), (List.getElem?_eq_some_iff.mp hu).1⟩ hu h
end
end PL

end
section
open PySem PySem.Calls PyProof.Rows
set_option Elab.async false
set_option linter.unusedVariables false
set_option linter.unusedSimpArgs false
set_option linter.unusedSectionVars false
set_option maxRecDepth 100000
namespace PL
/-! list.extend, list.index -/
section
variable {C : Cx} {X : XP} {σ : St} {Q : V → St → Prop}
end
end PL

end
section
open PySem PySem.Calls PyProof.Rows
set_option Elab.async false
set_option linter.unusedVariables false
set_option linter.unusedSimpArgs false
set_option linter.unusedSectionVars false
set_option maxRecDepth 100000
namespace PL
/-! what a rooted text says of a place -/
/-! one step up -/
/-! two places -/
/-! up by two dots -/
/-! a beginning of the text -/
/-! the names on a line -/
end PL

end
section
open PySem PySem.Calls PyProof.Rows
set_option Elab.async false
set_option linter.unusedVariables false
set_option linter.unusedSimpArgs false
set_option linter.unusedSectionVars false
set_option maxRecDepth 100000
namespace PL
/-! one name takes the one item of a set of truth values -/
section
variable {C : Cx} {X : XP} {σ : St}
end
end PL

end
section
open PySem PySem.Calls PyProof.Rows PySem.SeqAt
set_option Elab.async false
set_option linter.unusedVariables false
set_option linter.unusedSimpArgs false
set_option linter.unusedSectionVars false
set_option maxRecDepth 100000
namespace PL
/-! a text among texts -/
section
variable {C : Cx} {X : XP} {σ : St} {Q : V → St → Prop}
end
end PL

end
section
open PySem PySem.Calls PyProof.Rows PySem.SeqAt
set_option Elab.async false
set_option linter.unusedVariables false
set_option linter.unusedSimpArgs false
set_option linter.unusedSectionVars false
set_option maxRecDepth 100000
namespace PL
section
variable {C : Cx} {X : XP} {σ : St} {Q : V → St → Prop}
/-- one argument, two arguments -/
theorem CallV.of1 {f : Value} {v : V} (h : ∀ z₀ zs z s x, Z.le z₀ z → R C zs σ z s → Rep z v x → wpAny C.M C.A (call f [x] []) (Post C zs z (PVal Q)) (PX C zs z X) s) : CallV C f [v] Q X σ := by
  refine CallV.toks fun z₀ zs z s xs hz hR r => ?_
  obtain ⟨x, _, rfl, r1, t⟩ := RepL.inv r
  cases t.inv0
  exact h z₀ zs z s x hz hR r1
theorem CallV.of2 {f : Value} {v w : V} (h : ∀ z₀ zs z s x y, Z.le z₀ z → R C zs σ z s → Rep z v x → Rep z w y → wpAny C.M C.A (call f [x, y] []) (Post C zs z (PVal Q)) (PX C zs z X) s) : CallV C f [v, w] Q X σ := by
  refine CallV.toks fun z₀ zs z s xs hz hR r => ?_
  obtain ⟨x, _, rfl, r1, t⟩ := RepL.inv r
  obtain ⟨y, _, rfl, r2, t2⟩ := RepL.inv t
  cases t2.inv0
  exact h z₀ zs z s x y hz hR r1 r2
/-- the quotient and the rest -/
theorem call_divmod {i j : Int} (hj : j ≠ 0) (hp : Builtin.divisionGoesByPylong i j = false) (h : Q (.tup [.int (i.fdiv j), .int (i.fmod j)]) σ) : CallV C (.builtin "divmod") [.int i, .int j] Q X σ := by
  refine CallV.of2 fun z₀ zs z s x y hz hR rx ry => ?_
  obtain ⟨t, rfl⟩ := rx.e
  obtain ⟨u, rfl⟩ := ry.e
  refine PyProof.Rows.divmod_int hj ?_ (.inl hp)
  obtain ⟨R', l⟩ := hR.frozen (tupO [.int (i.fdiv j) s.toks, .int (i.fmod j) (s.toks + 1)] 0) (s.toks + 1 + 1)
  exact ⟨_, σ, l, R', _, .tup put_self (.cons (.int _ _) (.cons (.int _ _) .nil)), h⟩
/-- no octets -/
inductive NotB (σ : St) : V → Prop
  | none : NotB σ .none
  | int (i : Int) : NotB σ (.int i)
  | bool (b : Bool) : NotB σ (.bool b)
  | tup (vs : List V) : NotB σ (.tup vs)
  | lst (v : V) (vs : List V) (h : IsL σ v vs) : NotB σ v
theorem call_isi_notB {v : V} (k : NotB σ v) (h : Q (.bool false) σ) : CallV C (.builtin "isinstance") [v, .con (.type "bytes")] Q X σ := by
  refine CallV.of2 fun z₀ zs z s x y hz hR rx ry => ?_
  obtain ⟨_, rfl⟩ := ry.e
  cases k with
  | none => obtain ⟨_, rfl⟩ := rx.e; exact PySem.IsiPair.NoneType_bytes (PVal.toks hR (.bool false) h)
  | int i => obtain ⟨_, rfl⟩ := rx.e; exact PySem.IsiPair.int_bytes (PVal.toks hR (.bool false) h)
  | bool b => obtain ⟨_, rfl⟩ := rx.e; exact PySem.IsiPair.bool_bytes (PVal.toks hR (.bool false) h)
  | tup vs => obtain ⟨a, items, n, rfl, e, _⟩ := rx.e; exact PySem.IsiPair.tuple_bytes (hR.rh.hz _ _ e) rfl (PVal.toks hR (.bool false) h)
  | lst v vs k => obtain ⟨a, items, n, rfl, e, _⟩ := k.obj rx (Z.le_refl _) hR; exact PySem.IsiPair.list_bytes e rfl (PVal.toks hR (.bool false) h)
/-- the kinds are the same or not -/
theorem Cmp.isNotT {S T : String} (h : Q (.bool (!((.type S : Value) == .type T))) σ) : Cmp C .IsNot (.con (.type S)) (.con (.type T)) Q X σ := by
  intro z₀ x y rx ry zs z s hz hR
  obtain ⟨_, rfl⟩ := rx.e
  obtain ⟨_, rfl⟩ := ry.e
  exact wpAny_isNot_plain rfl (PVal.same hR (.bool _) h)
theorem Cmp.ne_same {a b : V} (e : a = b) (ha : plainV a = true) (da : deepV a ≤ 64) (h : Q (.bool false) σ) : Cmp C .NotEq a b Q X σ := by
  subst e
  exact Cmp.ne_data ha ha da da (by rw [eqv_refl ha]; exact h)
end
/-! a live list within a live list -/
theorem RepL.last {z : Z} {a : Addr} {w : V} (h : Rep z w (.ref a)) : ∀ {vs : List V} {xs : List Value}, RepL z (vs ++ [.ref a]) xs → RepL z (vs ++ [w]) xs := by
  intro vs
  induction vs with
  | nil =>
    intro xs r
    obtain ⟨x, _, rfl, r1, t⟩ := RepL.inv r
    obtain ⟨_, rfl⟩ := r1.e
    exact .cons h t
  | cons v vs ih =>
    intro xs r
    obtain ⟨x, _, rfl, r1, t⟩ := RepL.inv r
    exact .cons r1 (ih t)
section
variable {C : Cx} {X : XP} {σ : St}
theorem R.freezeIn {zs z : Z} {s : Shared} {L : List (Str × V)} {H : Led} {a b : Addr} {cur vs : List V} (hR : R C zs ⟨L, (a, .list cur) :: (b, .list (vs ++ [.ref a])) :: H⟩ z s) : ∃ z', Z.le z z' ∧ R C zs ⟨L, (b, .list (vs ++ [.lst cur])) :: H⟩ z' s := by
  obtain ⟨z', l, R1, r⟩ := hR.freezeL (Rem.head)
  obtain ⟨⟨items, n, e, rl⟩, _⟩ := R1.rh.hH _ List.mem_cons_self
  exact ⟨z', l, R1.upd (h' := s.heap) (t := s.toks) Upd.head (Heap.SameBut.refl b s.heap) ⟨items, n, e, rl.last r⟩⟩
theorem TSs.freezeIn {st : List Stmt} {QF : Fl → St → Prop} {L : List (Str × V)} {H : Led} {a b : Addr} {cur vs : List V} (h : TSs C st QF X ⟨L, (b, .list (vs ++ [.lst cur])) :: H⟩) : TSs C st QF X ⟨L, (a, .list cur) :: (b, .list (vs ++ [.ref a])) :: H⟩ := by
  intro z₀ zs z s hz hR
  obtain ⟨z', l, R1⟩ := hR.freezeIn
  refine wpAny_mono (h z₀ zs z' s (Z.le_trans hz l) R1) ?_ fun _ _ x => PX.le l x
  rintro f s1 ⟨z1, σ1, l1, R2, q⟩
  exact ⟨z1, σ1, Z.le_trans l l1, R2, q⟩
end
/-! the list of some octets -/
section
variable {prog : Program} {w : World} {A : Around} {E : Value → Shared → Prop} {s : Shared}
noncomputable abbrev OctAt (b : Array UInt8) (i : Nat) (v : Value) : Prop := ∃ c u, b[i]? = some c ∧ v = .int (c.toNat : Int) u
theorem hint_octets {b : Array UInt8} {t : Tok} {Q : Bool → Shared → Prop} (h : Q false s) : wpAny (model prog w) A (Builtin.List.listLengthHint (.bytes b t)) Q E s := by
  unfold Builtin.List.listLengthHint
  refine wpAny_bind (wpAny_specialOf (T := "bytes") (v := .bytes b t) rfl PySem.W.FB.slot_bytes_len.lookup ?_)
  generalize hid : ("bytes.__len__" : String) = id0
  wp_delta
  rw [show splitId id0 = some ("bytes", "__len__") from by subst hid; decide +kernel]
  subst hid
  refine wpAny_bind (wpAny_isInstance (T := "bytes") (v := .bytes b t) (b := true) rfl (by rw [isSubtype_type]; kernel_rfl) ?_)
  refine wpAny_ite_split (fun hab => absurd hab (by decide)) (fun _ => ?_)
  refine wpAny_ite_split (fun _ => ?_) (fun hab => absurd (by decide +kernel) hab)
  refine wpAny_bind (wpAny_typeOf (T := "bytes") (v := .bytes b t) rfl ?_)
  exact wpAny_pure h
theorem extend_octets {Rr : Result → Shared → Prop} (hh : A.handled = none) (b : Array UInt8) (t : Tok) (hn : b.size ≤ 16777216) (S : Addr) (res : Value) (c₀ : Nat) (hS : s.heap.get? S = some { cls := .type "list", data := .seq #[] c₀ })
    (hR : ∀ h' tk acc' c', (∀ b o, b ≠ S → s.heap.get? b = some o → h'.get? b = some o) → h'.get? S = some { cls := .type "list", dict := none, data := .seq acc' c', slots := #[] } →
      ItemsOf (OctAt b) acc' b.size → Rr (.ok (.ret res)) { s with heap := h', toks := tk }) :
    wpAny (model prog w) A.in1 (Builtin.List.listExtendWith (.ref S) (.bytes b t) res)
      (fun fin s' => match fin with | .done f => Rr (.ok f) s' | .again c' => c'.quiet = true ∧ codeAny (model prog w) A c' Rr s') (fun e s' => Rr (.error e) s') s := by
  have hSI : S ≠ s.heap.objs.size := Nat.ne_of_lt (Heap.lt_size hS)
  have hSf : S ∉ [s.heap.objs.size] := fun hm => hSI (List.mem_singleton.mp hm)
  have W := (PySem.W.KBw.walks (prog := prog) (w := w) (A := A.in1) hh s.heap.objs.size b t).toS
  have key : ∀ (h : Heap) (c₁ tk : Nat), PySem.W.KBw.IsBytesIter h s.heap.objs.size b t 0 → (∀ b o, b ≠ S → s.heap.get? b = some o → h.get? b = some o) →
      h.get? S = some { cls := .type "list", data := .seq #[] c₁ } → codeAny (model prog w) A (.builtin "list.extend.loop" ⟨[.ref S, .ref s.heap.objs.size, res], []⟩) Rr { s with heap := h, toks := tk } := by
    intro h c₁ tk hit hk hS₁
    refine codeAny_extend_loopS W (by rw [sizeLine_eq]; exact hn) S hSf res b.size 0 _ #[] c₁ rfl (Nat.zero_le _) hit hS₁ (ItemsOf.nil _) fun s' acc' c' hm hS' hacc => ?_
    rw [Moved.eq_with hm]
    refine hR s'.heap s'.toks acc' c' (fun b o hb e => hm.heap b o (fun hmem => ?_) (hk b o hb e)) hS' hacc
    rcases List.mem_cons.mp hmem with e' | hmem
    · exact hb e'
    · exact absurd (Heap.lt_size e) (by rw [List.mem_singleton.mp hmem]; exact Nat.lt_irrefl _)
  unfold Builtin.List.listExtendWith
  refine wpAny_bind (wpAny_typeOf (T := "bytes") (v := .bytes b t) rfl ?_)
  have h1 : Builtin.List.listSameRef (.ref S) (.bytes b t) = false := rfl
  have h2 : (Value.type "bytes" == Value.type "list") = false := by decide
  have h3 : (Value.type "bytes" == Value.type "tuple") = false := by decide
  simp only [h1, h2, h3, Bool.or_false, Bool.false_eq_true, if_false]
  refine wpAny_bind (PySem.W.KBw.pyIter_bytes ?_)
  have hit₁ : PySem.W.KBw.IsBytesIter (s.heap.push { cls := .type "bytes_iterator", data := .fields #[.bytes b t, .int 0 0] }) s.heap.objs.size b t 0 := ⟨_, Heap.get?_push_size _ rfl, rfl, rfl⟩
  refine wpAny_bind (wpAny_holding (hint_octets ?_))
  have hS₁ := Heap.get?_push_of_some { cls := .type "bytes_iterator", data := .fields #[.bytes b t, .int 0 0] } hS
  exact wpAny_ite_split (fun hab => absurd hab (by decide)) (fun _ => wpAny_pure ⟨plainId_quiet F.plain_extend_loop _, key _ c₀ _ hit₁ (fun b o _ e => Heap.get?_push_of_some _ e) hS₁⟩)
theorem init_octets {Rr : Result → Shared → Prop} (hh : A.handled = none) (b : Array UInt8) (t : Tok) (hn : b.size ≤ 16777216) (S : Addr) (hS : s.heap.get? S = some { cls := .type "list", data := .seq #[] })
    (hR : ∀ h' tk acc' c', (∀ b o, b ≠ S → s.heap.get? b = some o → h'.get? b = some o) → h'.get? S = some { cls := .type "list", dict := none, data := .seq acc' c', slots := #[] } →
      ItemsOf (OctAt b) acc' b.size → Rr (.ok (.ret .none)) { s with heap := h', toks := tk }) :
    wpAny (model prog w) A.in1 (Builtin.«list.__init__» ⟨[.ref S, .bytes b t], []⟩)
      (fun fin s' => match fin with | .done f => Rr (.ok f) s' | .again c' => c'.quiet = true ∧ codeAny (model prog w) A c' Rr s') (fun e s' => Rr (.error e) s') s := by
  show wpAny _ _ (do let old ← Builtin.List.listItems (.ref S); Builtin.List.listUpdate (.ref S) (fun _ => #[]); letGo old.toList.reverse; Builtin.List.listExtendWith (.ref S) (.bytes b t) .none) _ _ s
  refine wpAny_bind ?_
  unfold Builtin.List.listItems
  refine wpAny_bind (wpAny_seqItems hS rfl (wpAny_pure ?_))
  show wpAny _ _ (updateSeq S (fun _ => #[]) >>= fun _ => letGo (#[] : Array Value).toList.reverse >>= fun _ => Builtin.List.listExtendWith (.ref S) (.bytes b t) .none) _ _ s
  refine wpAny_bind (wpAny_updateSeq hS rfl ?_)
  have hS₂ := Heap.get?_update_self (Obj.mapSeq (fun _ => (#[] : Array Value))) hS rfl
  have oth : ∀ b o, b ≠ S → s.heap.get? b = some o → (s.heap.update S (Obj.mapSeq (fun _ => (#[] : Array Value)))).get? b = some o :=
    fun b o hb e => (Heap.get?_update_other _ _ (Ne.symm hb)).trans e
  refine wpAny_bind (wpAny_letGo ?_)
  refine extend_octets hh b t hn S .none _ hS₂ fun h' tk acc' c' hk hS' hacc => ?_
  exact hR h' tk acc' c' (fun b o hb e => hk b o hb (oth b o hb e)) hS' hacc
theorem list_octets {Q : Value → Shared → Prop} (hh : A.handled = none) (b : Array UInt8) (t : Tok) (hn : b.size ≤ 16777216)
    (hQ : ∀ h' tk acc' c', (∀ b o, s.heap.get? b = some o → h'.get? b = some o) →
      h'.get? s.heap.objs.size = some { cls := .type "list", dict := none, data := .seq acc' c', slots := #[] } → ItemsOf (OctAt b) acc' b.size → Q (.ref s.heap.objs.size) { s with heap := h', toks := tk }) :
    wpAny (model prog w) A (call (.type "list") [.bytes b t]) Q E s := by
  refine callType_codes (Q₁ := fun obj s₁ => obj = .ref s.heap.objs.size ∧ s₁ = { s with heap := s.heap.push { cls := .type "list", data := .seq #[] } }) F.called_list (F.typeCall_list_1 _) F.entry_list_init
    (code_list_new _ ⟨rfl, rfl⟩) fun obj s₁ h₁ => ?_
  obtain ⟨rfl, rfl⟩ := h₁
  have hS : (s.heap.push { cls := .type "list", data := .seq #[] }).get? s.heap.objs.size = some { cls := .type "list", data := .seq #[] } := Heap.get?_push_size _ rfl
  refine ⟨⟨_, hS, rfl⟩, F.args_list_init_2 _ _, init_octets (A := A.in1) hh b t hn _ hS fun h' tk acc' c' hk hS' hacc => ?_⟩
  exact ⟨rfl, hQ h' tk acc' c' (fun b o e => hk b o (Nat.ne_of_lt (Heap.lt_size e)) (Heap.get?_push_of_some _ e)) hS' hacc⟩
end
section
variable {C : Cx} {X : XP} {σ : St} {Q : V → St → Prop}
theorem items_octets {z : Z} {l : List Nat} (hl : ∀ c ∈ l, c < 256) {acc : Array Value} (h : ItemsOf (OctAt (l.map UInt8.ofNat).toArray) acc (l.map UInt8.ofNat).toArray.size) : RepL z (l.map fun c : Nat => V.int (c : Int)) acc.toList := by
  have h1 : acc.toList.length = l.length := by rw [Array.length_toList, h.1]; simp
  have h2 : ∀ (j : Nat) (v : Value), acc.toList[j]? = some v → ∃ c t, l[j]? = some c ∧ v = Value.int (c : Int) t := fun j v e => by
    obtain ⟨c, t, e1, e2⟩ := h.2 j v (by rw [← Array.getElem?_toList]; exact e)
    rw [List.getElem?_toArray, List.getElem?_map] at e1
    cases e3 : l[j]? with
    | none => rw [e3] at e1; cases e1
    | some d =>
      rw [e3] at e1; cases e1
      have hd := hl d (List.mem_of_getElem? e3)
      exact ⟨d, t, rfl, by rw [e2]; congr 1; simp [Nat.mod_eq_of_lt hd]⟩
  generalize acc.toList = xs at h1 h2
  clear h hl
  induction l generalizing xs with
  | nil => cases List.length_eq_zero_iff.mp h1; exact .nil
  | cons c l ih => cases xs with
    | nil => cases h1
    | cons x r =>
      obtain ⟨d, t, e1, rfl⟩ := h2 0 x rfl
      cases e1
      exact .cons (.int _ _) (ih r (by simpa using h1) fun j v e => h2 (j + 1) v (by simpa using e))
theorem call_list_octets {l : List Nat} (hh : C.A.handled = none) (hn : l.length ≤ 16777216) (h : ∀ d, Q (.ref d) ⟨σ.loc, (d, .list (l.map fun c : Nat => V.int (c : Int))) :: σ.H⟩) : CallV C (.type "list") [.txt true l] Q X σ := by
  refine CallV.of1 fun z₀ zs z s x hz hR r => ?_
  obtain ⟨t, rfl, hl⟩ := r.e
  refine list_octets hh _ t (by simpa using hn) fun h' tk acc c' k e' hi => ?_
  exact CallV.fresh hR (t := tk) (items := acc.toList) k (by simpa using e') (items_octets hl hi) h
end
end PL

end
section
open PySem PySem.Calls PyProof.Rows
set_option Elab.async false
set_option linter.unusedVariables false
set_option linter.unusedSimpArgs false
set_option linter.unusedSectionVars false
set_option maxRecDepth 100000
namespace PL
/-! rows of pieces: what the path functions do to them -/
theorem joinS_cons (c : Nat) (p : List Nat) {ps : List (List Nat)} (h : ps ≠ []) : joinS [c] (p :: ps) = p ++ c :: joinS [c] ps := by
  cases ps with
  | nil => exact absurd rfl h
  | cons q r => show p ++ [c] ++ joinS [c] (q :: r) = _; simp
theorem joinS_splitS (c : Nat) : ∀ l : List Nat, joinS [c] (splitS c l) = l
  | [] => rfl
  | x :: l => by
    have ih := joinS_splitS c l
    rw [splitS_consE]
    by_cases h : x = c
    · rw [if_pos h, joinS_cons c _ (splitS_ne c l), ih, h]; rfl
    · rw [if_neg h]
      cases e : splitS c l with
      | nil => exact absurd e (splitS_ne c l)
      | cons p ps =>
        rw [e] at ih
        unfold consP
        cases ps with
        | nil => show x :: p = _; rw [← ih]; rfl
        | cons q r => rw [joinS_cons c _ (by simp)] at ih ⊢; rw [← ih]; rfl
/-! the slashes at the front -/
/-! join -/
/-! head -/
end PL

end
section
open PySem PySem.Calls PyProof.Rows
set_option Elab.async false
set_option linter.unusedVariables false
set_option linter.unusedSimpArgs false
set_option linter.unusedSectionVars false
set_option maxRecDepth 100000
namespace PL
/-! how far below the start, and the names -/
/-! what two begin with -/
end PL

end
section
open PySem PySem.Calls PyProof.Rows
set_option Elab.async false
set_option linter.unusedVariables false
set_option linter.unusedSimpArgs false
set_option linter.unusedSectionVars false
set_option maxRecDepth 100000
namespace PL
/-! the ending of a name -/
end PL

end
section
open PySem PySem.Calls PyProof.Rows
set_option Elab.async false
set_option linter.unusedVariables false
set_option linter.unusedSimpArgs false
set_option linter.unusedSectionVars false
set_option maxRecDepth 100000
namespace PL
section
variable {C : Cx} {X : XP} {σ : St} {Q : V → St → Prop}
end
/-! lengths -/
end PL

end
section
open PySem PySem.Calls PyProof.Rows PySem.SeqAt
set_option Elab.async false
set_option linter.unusedVariables false
set_option maxHeartbeats 4000000
namespace PL
section
variable {C : Cx} {X : XP} {σ : St} {Q : V → St → Prop}
end
end PL

end
section
open PySem PySem.Calls PyProof.Rows PySem.W
set_option Elab.async false
set_option linter.unusedVariables false
set_option maxHeartbeats 4000000
namespace PL
/-! the binary insertion sort, as a tree of questions, sorts -/
section
variable {ρ : Nat → Nat} {n : Nat} {cmp : Nat → Nat → (Bool → Shared → Prop) → Shared → Prop} {s : Shared}
end
end PL

end
section
open PySem PySem.Calls PyProof.Rows PySem.W
set_option Elab.async false
set_option linter.unusedVariables false
set_option maxHeartbeats 4000000
namespace PL
section
variable {prog : Program} {w : World} {A : Around} {E : Value → Shared → Prop} {s : Shared}
end
end PL

end
section
open PySem PySem.Calls PyProof.Rows PySem.W PySem.SeqAt
set_option Elab.async false
set_option linter.unusedVariables false
set_option maxHeartbeats 4000000
namespace PL
/-! ranks -/
section
variable {α : Type}
end
section
variable {prog : Program} {w : World} {A : Around} {E : Value → Shared → Prop} {s : Shared} {z : Z}
end
section
variable {C : Cx} {X : XP} {σ : St} {Q : V → St → Prop}
end
end PL

end
section
open PySem PySem.Calls PyProof.Rows PySem.W PySem.SeqAt
set_option Elab.async false
set_option linter.unusedVariables false
set_option maxHeartbeats 4000000
namespace PL
section
variable {C : Cx} {X : XP} {σ : St} {Q : V → St → Prop}
end
end PL

end
section
open PySem PySem.Calls PyProof.Rows PySem.SeqAt
set_option Elab.async false
set_option linter.unusedVariables false
set_option maxHeartbeats 4000000
namespace PL
section
variable {C : Cx} {X : XP} {σ : St} {Q : V → St → Prop}
end
/-! one value, told twice -/
section
variable {z : Z} {A : Around} {s : Shared}
end
section
variable {C : Cx} {X : XP} {σ : St} {Q : V → St → Prop}
end
end PL

end
section
open PySem PySem.Calls PyProof.Rows
open Sem (wp)
set_option Elab.async false
set_option linter.unusedVariables false
set_option linter.unusedSimpArgs false
set_option linter.unusedSectionVars false
set_option maxRecDepth 100000
namespace PL

/-! contexts whose stack holds no octets -/
noncomputable def clean : Code → Bool
  | .builtin id _ => !(Builtin.Bytes.decodersThatHold.contains id) && !(["bytearray.__contains__", "bytearray.__mod__", "bytearray.__rmod__", "_struct.pack_into.held", "bytearray.find.held"].contains id)
  | _ => true
theorem clean_of {id : String} {args : Args} (h : (!(Builtin.Bytes.decodersThatHold.contains id) && !(["bytearray.__contains__", "bytearray.__mod__", "bytearray.__rmod__", "_struct.pack_into.held", "bytearray.find.held"].contains id)) = true) : clean (.builtin id args) = true := h
noncomputable def wpS {α : Type} (M : Model) (A : Around) (t : Sem α) (Q : α → Shared → Prop) (E : Value → Shared → Prop) (s : Shared) : Prop :=
  ∀ Γ p, Γ.In A → clean Γ.code = true → (∀ x ∈ Γ.below, clean x.1 = true) → wp M Γ t (fun a _ s' => Q a s') (fun e _ s' => E e s') p s
noncomputable def codeS (M : Model) (A : Around) (c : Code) (R : Result → Shared → Prop) (s : Shared) : Prop :=
  ∀ Γ p, Γ.code = c → Γ.Below A → (∀ x ∈ Γ.below, clean x.1 = true) → wpCode M Γ R p s

section
variable {α β : Type} {M : Model} {A : Around} {E : Value → Shared → Prop} {s : Shared}
theorem wpS_of {t : Sem α} {Q : α → Shared → Prop} (h : wpAny M A t Q E s) : wpS M A t Q E s := fun Γ p hΓ _ _ => h Γ p hΓ
theorem wpS_mono {t : Sem α} {Q Q' : α → Shared → Prop} {E' : Value → Shared → Prop} (h : wpS M A t Q E s) (hQ : ∀ a s, Q a s → Q' a s) (hE : ∀ e s, E e s → E' e s) : wpS M A t Q' E' s :=
  fun Γ p hΓ h1 h2 => Sem.wp_mono M Γ t (fun a _ s => hQ a s) (fun e _ s => hE e s) p s (h Γ p hΓ h1 h2)
theorem wpS_bind {m : Sem α} {f : α → Sem β} {Q : β → Shared → Prop} (h : wpS M A m (fun a s' => wpS M A (f a) Q E s') E s) : wpS M A (m >>= f) Q E s := fun Γ p hΓ h1 h2 => by
  rw [Sem.wp_bind']
  exact Sem.wp_mono M Γ m (fun a p' s' h' => h' Γ p' hΓ h1 h2) (fun _ _ _ h' => h') p s (h Γ p hΓ h1 h2)
theorem wpS_bind1 {m : Sem α} {f : α → Sem β} {Q : β → Shared → Prop} (h : wpAny M A m (fun a s' => wpS M A (f a) Q E s') E s) : wpS M A (m >>= f) Q E s := wpS_bind (wpS_of h)
theorem wpS_holding {vs : List Value} {m : Sem α} {Q : α → Shared → Prop} (h : wpS M A m Q E s) : wpS M A (holding vs m) Q E s :=
  fun Γ p hΓ h1 h2 => by rw [Sem.wp_holding]; exact h Γ p hΓ h1 h2
theorem wpS_onRaise {m : Sem α} {k : Value → Sem Unit} {Q : α → Shared → Prop} (h : wpS M A m Q (fun e s' => wpAny M A (k e) (fun _ s'' => E e s'') E s') s) : wpS M A (m.onRaise k) Q E s := fun Γ p hΓ h1 h2 => by
  rw [Sem.wp_onRaise]
  exact Sem.wp_mono M Γ m (fun _ _ _ h' => h') (fun e p' s' h' => h' Γ p' hΓ) p s (h Γ p hΓ h1 h2)
theorem wpS_call {f : Value} {pos : List Value} {kw : List (Str × Value)} {Q : Value → Shared → Prop} (hc : codeS M A (.call f ⟨pos, kw⟩) (fun r s' => match r with | .ok (.ret v) => Q v s' | .ok _ => False | .error e => E e s') s) :
    wpS M A (call f pos kw) Q E s := fun Γ p hΓ h1 h2 => by
  show wp M Γ (runValue _) _ _ _ _
  rw [Sem.wp_runValue]
  exact hc _ p rfl (hΓ.enter _ none p (by intro x; cases x)) fun x hx => by
    rcases List.mem_cons.mp hx with rfl | hx
    · exact h1
    · exact h2 x hx
theorem codeS_of_tree {c : Code} {R : Result → Shared → Prop} (hc : clean c = true)
    (h : wpS M (A.under c) (M.den c) (fun fin s' => match fin with | .done f => R (.ok f) s' | .again c' => c'.quiet = true ∧ codeS M A c' R s')
      (fun e s' => R (.error e) s') s) : codeS M A c R s := fun Γ p e hΓ h2 => by
  subst e
  rw [wpCode_iff_wp]
  refine Sem.wp_mono M Γ _ (fun fin p' s' h' => ?_) (fun _ _ _ h' => h') p s (h Γ p hΓ.in hc h2)
  cases fin with
  | done f => exact h'
  | again c' => exact ⟨h'.1, h'.2 (Γ.goto c') p' rfl (hΓ.goto c') h2⟩
theorem wpS_exported {self : Value} {Q : Bool → Shared → Prop} (h : Q false s) : wpS M A (Builtin.Bytes.exported self) Q E s := fun Γ p hΓ h1 h2 => by
  have all : ∀ x ∈ (Γ.code, p) :: Γ.below, clean x.1 = true := fun x hx => by
    rcases List.mem_cons.mp hx with rfl | hx
    · exact h1
    · exact h2 x hx
  unfold Builtin.Bytes.exported
  rw [Sem.wp_bind']
  show Q (List.any ((Γ.code, p) :: Γ.below) _) s
  generalize (Γ.code, p) :: Γ.below = l at all
  have e : ∀ f : Code × Pos → Bool, (∀ x, clean x.1 = true → f x = false) → l.any f = false := fun f hf => List.any_eq_false.mpr fun x hx => by rw [hf x (all x hx)]; decide
  rw [e]
  · exact h
  · rintro ⟨c, q⟩ hc
    dsimp only at hc ⊢
    unfold clean at hc
    split at hc
    · rename_i id args
      simp only [Bool.and_eq_true, Bool.not_eq_true'] at hc
      split <;> simp_all
    · split <;> simp_all
end
section
variable {prog : Program} {w : World} {A : Around} {E : Value → Shared → Prop} {s : Shared}
theorem codeS_builtin {id : String} {args : Args} {b : Builtin} {R : Result → Shared → Prop} (hc : clean (.builtin id args) = true) (hb : entryFor table id = some b)
    (h : wpS (model prog w) (A.under (.builtin id args)) (b args)
      (fun fin s' => match fin with | .done f => R (.ok f) s' | .again c' => c'.quiet = true ∧ codeS (model prog w) A c' R s') (fun e s' => R (.error e) s') s) : codeS (model prog w) A (.builtin id args) R s := by
  refine codeS_of_tree hc ?_
  show wpS _ _ (match entryFor table id with | some b => b args | none => unsupported ((withoutEnding? id "#data").getD id)) _ _ s
  rw [hb]; exact h
end
end PL

end
section
open PySem PySem.Calls PyProof.Rows
open Sem (wp)
set_option Elab.async false
set_option linter.unusedVariables false
set_option linter.unusedSimpArgs false
set_option linter.unusedSectionVars false
set_option maxRecDepth 100000
namespace PL
namespace BA
theorem mro : mroOf (.type "bytearray") = pure [.type "bytearray", .type "object"] := by rw [mroOf_type]; kernel_rfl
theorem lookup_new : typeLookup (.type "bytearray") "__new__" = pure (some (.builtin "bytearray.__new__")) := by rw [typeLookup_type, builtinLookup_eq_fast]; kernel_rfl
theorem sub : isSubtype (.type "bytearray") (.type "bytearray") = pure true := by rw [isSubtype_type]; kernel_rfl
theorem slot_init : Slot "bytearray" "__init__" "bytearray.__init__" :=
  .of (owner := "bytearray") (n := "__init__") (by rw [typeLookup_type, builtinLookup_eq_fast]; kernel_rfl) (by decide +kernel) (by decide +kernel) (by decide +kernel)
    (by first | exact .inl (by decide +kernel) | exact .inr (by decide +kernel)) (by rw [isSubtype_type]; kernel_rfl)
theorem made : Bind.madeBy (.type "bytearray") = pure (some "bytearray.__new__") := madeBy_type mro lookup_new (by decide +kernel)
theorem typeCall (a : Value) : checkTypeCall "bytearray" ⟨[a], []⟩ = pure () := by kernel_rfl
theorem newCall (a : Value) : checkBuiltinCall "bytearray.__new__" ⟨[.type "bytearray", a], []⟩ = pure () := by kernel_rfl
theorem entry_new : entryFor table "bytearray.__new__" = some Builtin.«list.__new__» := entryFor_alias (id' := "list.__new__") (by rw [fastTable_eq_tree]; kernel_rfl) (by first | rfl | decide +kernel) (by decide +kernel) (by rw [fastTable_eq_tree]; kernel_rfl)
theorem entry_init : entryFor table "bytearray.__init__" = some Builtin.«bytearray.__init__» := entryFor_of_tree (by kernel_rfl)
theorem plain_new : plainId "bytearray.__new__" = true := by decide +kernel
theorem plain_init : plainId "bytearray.__init__" = true := by decide +kernel
theorem args_init (a b : Value) : argsOk "bytearray.__init__" ⟨[a, b], []⟩ := by kernel_rfl
end BA
set_option maxRecDepth 1000000 in
set_option maxHeartbeats 4000000 in
theorem BA.owner : ("bytearray.__new__".splitOn ".__new__").headD "" = "bytearray" := by simp +decide [String.splitOn, String.splitOnAux]
section
variable {prog : Program} {w : World} {A : Around} {E : Value → Shared → Prop} {s : Shared}
theorem BA.code_new (a : Value) {Q₁ : Value → Shared → Prop} (h : Q₁ (.ref s.heap.objs.size) { s with heap := s.heap.push { cls := .type "bytearray", data := .bytearray #[] } }) :
    codeAny (model prog w) A (.call (.builtin "bytearray.__new__") ⟨[.type "bytearray", a], []⟩) (wants Q₁ E) s := by
  refine codeAny_of_tree ?_
  show wpAny _ A.in1 (do checkBuiltinCall "bytearray.__new__" ⟨[.type "bytearray", a], []⟩; again (.builtin "bytearray.__new__" ⟨[.type "bytearray", a], []⟩)) _ _ s
  refine wpAny_bind (wpAny_of_eq (BA.newCall a) (wpAny_pure ⟨plainId_quiet BA.plain_new _, codeAny_builtin_stack BA.entry_new rfl fun p st => ?_⟩))
  rw [Around.under_plainId BA.plain_new _]
  have hsub := BA.sub
  have hown := BA.owner
  obtain ⟨hp, g, d, tk, os⟩ := s
  simp only [hown]
  wp_walk
  exact h
noncomputable abbrev baO (b : Array UInt8) : Obj := { cls := .type "bytearray", data := .bytearray b }
theorem BA.look_release : typeLookup (.type "bytearray") "__release_buffer__" = pure (some (.builtin "bytearray.__release_buffer__")) := by rw [typeLookup_type, builtinLookup_eq_fast]; kernel_rfl
theorem BA.no_index : typeLookup (.type "bytes") "__index__" = pure none := by rw [typeLookup_type, builtinLookup_eq_fast]; kernel_rfl
theorem BA.own {v : Value} {Q : Bool → Shared → Prop} (hT : s.TypeIs v "bytearray") (h : Q false s) : wpAny (model prog w) A (Builtin.Bytes.ownRelease v) Q E s := by
  unfold Builtin.Bytes.ownRelease Builtin.Bytes.slotIsOwn
  refine wpAny_bind (wpAny_bind (wpAny_specialOf hT BA.look_release ?_))
  show wpAny _ _ (if _ then _ else _) _ _ _
  rw [if_neg (by decide +kernel)]
  have key : ∀ x : String, x = "bytearray" → wpAny (model prog w) A (isInstance v (.type x)) (fun a s' => wpAny (model prog w) A (pure !a) Q E s') E s := fun x hx => by
    rw [hx]; exact wpAny_isInstance hT BA.sub (wpAny_pure h)
  exact key _ (by decide +kernel)
theorem BA.exports {a : Addr} {b : Array UInt8} {Q : Nat → Shared → Prop} (ha : s.heap.get? a = some (baO b)) (h : Q 0 s) : wpAny (model prog w) A (Builtin.Bytes.exportsOf (.ref a)) Q E s := by
  unfold Builtin.Bytes.exportsOf
  exact wpAny_bind (wpAny_load ha (wpAny_pure h))
theorem BA.past {b : Array UInt8} (hn : b.size ≤ 16777216) : (Data.bytearray b).pastItsLine = none := by
  unfold Data.pastItsLine
  dsimp only
  rw [if_neg (by rw [sizeLine_eq]; omega)]
theorem BA.write {a : Addr} {b c : Array UInt8} {f : Array UInt8 → Array UInt8} {Q : Unit → Shared → Prop} (ha : s.heap.get? a = some (baO b)) (hf : f b = c) (hn : c.size ≤ 16777216)
    (h : ∀ h', Heap.SameBut a s.heap h' → h'.get? a = some (baO c) → Q () { s with heap := h' }) : wpAny (model prog w) A (Builtin.Bytes.write (.ref a) f) Q E s := by
  show wpAny _ _ (updateBytearray a f) _ _ _
  unfold updateBytearray
  refine wpAny_bind (wpAny_load ha ?_)
  dsimp only
  refine wpAny_bind (wpAny_update ha ?_)
  have e := Heap.get?_update_self (Obj.mapBytearray f) ha rfl
  have e' : (s.heap.update a (Obj.mapBytearray f)).get? a = some (baO c) := by rw [e]; simp [Obj.mapBytearray, hf]
  exact wpAny_lookBehind e' (BA.past hn) (h _ (Heap.SameBut.update ..) e')
theorem BA.init (a : Addr) (b : Array UInt8) (t : Tok) (hn : b.size ≤ 16777216) {Rr : Result → Shared → Prop} (ha : s.heap.get? a = some (baO #[]))
    (h : ∀ h', Heap.SameBut a s.heap h' → h'.get? a = some (baO b) → Rr (.ok (.ret .none)) { s with heap := h' }) :
    codeS (model prog w) A (.builtin "bytearray.__init__" ⟨[.ref a, .bytes b t], []⟩) Rr s := by
  refine codeS_builtin (clean_of (by decide +kernel)) BA.entry_init ?_
  rw [Around.under_plainId BA.plain_init _]
  have hT : s.TypeIs (.ref a) "bytearray" := ⟨_, ha, rfl⟩
  unfold Builtin.«bytearray.__init__»
  refine wpS_bind1 (BA.own hT ?_)
  show wpS _ _ (Builtin.Bytes.bindOptional "bytearray.__init__" "bytearray" ["source", "encoding", "errors"] [.bytes b t] [] >>= fun _ => _) _ _ _
  refine wpS_bind1 (wpAny_of_eq (a := [some (.bytes b t), none, none]) (by kernel_rfl) ?_)
  show wpS _ _ (Builtin.Bytes.checkCodecArg "bytearray.__init__" "bytearray" "encoding" none >>= fun _ => _) _ _ _
  refine wpS_bind1 (wpAny_of_eq (a := ()) rfl ?_)
  refine wpS_bind1 (wpAny_of_eq (a := ()) rfl ?_)
  refine wpS_bind ?_
  show wpS _ _ (Builtin.Bytes.exported (.ref a) >>= fun _ => _) _ _ _
  refine wpS_bind (wpS_exported ?_)
  show wpS _ _ (Builtin.Bytes.exportsOf (.ref a) >>= fun _ => _) _ _ _
  refine wpS_of (wpAny_bind (BA.exports ha (wpAny_pure ?_)))
  refine wpS_of ?_
  show wpAny _ _ (Builtin.Bytes.write (.ref a) (fun _ => #[]) >>= fun _ => _) _ _ _
  refine wpAny_bind (BA.write (f := fun _ => #[]) ha rfl (by simp) fun h1 sb1 e1 => ?_)
  show wpAny _ _ (asStr? (.bytes b t) >>= fun _ => _) _ _ _
  refine wpAny_bind (wpAny_of_eq (a := none) rfl ?_)
  show wpAny _ _ ((pure () : Sem Unit) >>= fun _ => _) _ _ _
  refine wpAny_bind (wpAny_pure ?_)
  show wpAny _ _ (specialOf (.bytes b t) (Str.ofString "__index__") >>= fun _ => _) _ _ _
  refine wpAny_bind (wpAny_specialOf (T := "bytes") (v := .bytes b t) rfl BA.no_index ?_)
  show wpAny _ _ (Builtin.Bytes.buffer? "bytearray.__init__" (.bytes b t) true >>= fun _ => _) _ _ _
  refine wpAny_bind (wpAny_of_eq (a := some b) ?_ ?_)
  · unfold Builtin.Bytes.buffer?
    rw [PySem.W.KBy.special_eq PySem.W.KBy.look_buffer, PySem.W.KBy.own_buffer, PySem.W.KBy.own_release]
    kernel_rfl
  show wpAny _ _ (rule "bytearray.__init__.bytes-like" >>= fun _ => _) _ _ _
  refine wpAny_bind (wpAny_rule ?_)
  refine wpAny_bind (BA.write (f := fun _ => b) e1 rfl hn fun h2 sb2 e2 => ?_)
  refine wpAny_pure ?_
  exact h h2 (sb1.trans sb2) e2
end
end PL
namespace PL
section
variable {prog : Program} {w : World} {A : Around} {E : Value → Shared → Prop} {s : Shared}
theorem BA.call (b : Array UInt8) (t : Tok) (hn : b.size ≤ 16777216) {Q : Value → Shared → Prop}
    (h : ∀ h', (∀ x o, s.heap.get? x = some o → h'.get? x = some o) → h'.get? s.heap.objs.size = some (baO b) → Q (.ref s.heap.objs.size) { s with heap := h' }) :
    wpS (model prog w) A (PySem.call (.type "bytearray") [.bytes b t] []) Q E s := by
  refine wpS_call (codeS_of_tree rfl ?_)
  show wpS _ _ (callAny (.type "bytearray") _) _ _ _
  refine wpS_of (wpAny_pure ⟨Code.quiet_builtin _ (by decide +kernel), codeS_builtin (clean_of (by decide +kernel)) F.entry_type_call ?_⟩)
  rw [Around.under_plain (weight_type_call_type "bytearray" [.bytes b t] []) rfl]
  unfold Builtin.«type.__call__»
  show wpS _ _ (checkTypeCall "bytearray" ⟨[.bytes b t], []⟩ >>= fun _ => _) _ _ _
  refine wpS_bind1 (wpAny_of_eq (BA.typeCall _) ?_)
  show wpS _ _ (mroOf (.type "bytearray") >>= fun _ => _) _ _ _
  refine wpS_bind1 (wpAny_of_eq BA.mro ?_)
  show wpS _ _ (Bind.madeBy (.type "bytearray") >>= fun _ => _) _ _ _
  refine wpS_bind1 (wpAny_of_eq BA.made ?_)
  show wpS _ _ ((pure (.builtin "bytearray.__new__") : Sem Value) >>= fun _ => _) _ _ _
  refine wpS_bind1 (wpAny_pure ?_)
  show wpS _ _ (holding [.builtin "bytearray.__new__"] (PySem.call (.builtin "bytearray.__new__") [.type "bytearray", .bytes b t] []) >>= fun _ => _) _ _ _
  refine wpS_bind1 (wpAny_holding (wpAny_call (codeAny_mono (BA.code_new (E := E) _ (Q₁ := fun v s1 => v = .ref s.heap.objs.size ∧ s1 = { s with heap := s.heap.push (baO #[]) }) ⟨rfl, rfl⟩) ?_)))
  intro r s1 hr
  cases r with
  | error e => exact hr
  | ok fl =>
    cases fl with
    | ret obj =>
      obtain ⟨rfl, rfl⟩ := hr
      have ha : (s.heap.push (baO #[])).get? s.heap.objs.size = some (baO #[]) := Heap.get?_push_size _ rfl
      have hT : ({ s with heap := s.heap.push (baO #[]) } : Shared).TypeIs (.ref s.heap.objs.size) "bytearray" := ⟨_, ha, rfl⟩
      refine wpS_bind1 (wpAny_isInstance hT BA.sub ?_)
      show wpS _ _ (holding [.ref s.heap.objs.size] (callSpecial? (.ref s.heap.objs.size) "__init__" [.bytes b t] []) >>= fun _ => _) _ _ _
      refine wpS_bind (wpS_holding ?_)
      unfold callSpecial?
      refine wpS_bind1 (wpAny_specialOf hT BA.slot_init.lookup ?_)
      show wpS _ _ (holding [.ref s.heap.objs.size, .bytes b t] (bindSpecial (.builtin "bytearray.__init__") (.ref s.heap.objs.size) >>= fun _ => _)) _ _ _
      refine wpS_holding ?_
      rw [BA.slot_init.bind]
      refine wpS_bind1 (wpAny_pure ?_)
      show wpS _ _ (PySem.call (.builtin "bytearray.__init__") [.ref s.heap.objs.size, .bytes b t] [] >>= fun _ => _) _ _ _
      refine wpS_bind (wpS_call (codeS_of_tree rfl ?_))
      show wpS _ A.in1.in1 (do checkBuiltinCall "bytearray.__init__" ⟨[.ref s.heap.objs.size, .bytes b t], []⟩; again (.builtin "bytearray.__init__" ⟨[.ref s.heap.objs.size, .bytes b t], []⟩)) _ _ _
      refine wpS_of (wpAny_bind (BA.slot_init.check _ _ _ _ _ _ _ _ hT (BA.args_init _ _) (wpAny_pure ⟨plainId_quiet BA.plain_init _, ?_⟩)))
      refine BA.init _ b t hn ha fun h' sb e => ?_
      refine wpS_of (wpAny_pure ?_)
      refine wpS_of (wpAny_pure ?_)
      exact h h' (fun x o ho => (sb.2 x (Nat.ne_of_lt (Heap.lt_size ho))).trans (Heap.get?_push_of_some _ ho)) e
    | _ => exact hr.elim
end
end PL

end
section
open PySem PySem.Calls PyProof.Rows
open Sem (wp)
set_option Elab.async false
set_option linter.unusedVariables false
set_option linter.unusedSimpArgs false
set_option linter.unusedSectionVars false
set_option maxRecDepth 100000
namespace PL
noncomputable def TTS {α : Type} (C : Cx) (z₀ : Z) (t : Sem α) (P : Z → α → St → Prop) (X : XP) (σ : St) : Prop :=
  ∀ zs z s, Z.le z₀ z → R C zs σ z s → wpS C.M C.A t (Post C zs z P) (PX C zs z X) s
section
variable {α β : Type} {C : Cx} {z₀ : Z} {X : XP} {σ : St}
theorem TTS.of {t : Sem α} {P : Z → α → St → Prop} (h : TT C z₀ t P X σ) : TTS C z₀ t P X σ := fun zs z s hz hR => wpS_of (h zs z s hz hR)
theorem TTS.bind {m : Sem α} {f : α → Sem β} {P : Z → β → St → Prop} (h : TTS C z₀ m (fun z a σ1 => TTS C z (f a) P X σ1) X σ) : TTS C z₀ (m >>= f) P X σ := by
  intro zs z s hz hR
  refine wpS_bind (wpS_mono (h zs z s hz hR) ?_ fun _ _ x => x)
  rintro a s1 ⟨z1, σ1, l1, R1, k⟩
  refine wpS_mono (k zs z1 s1 (Z.le_refl _) R1) ?_ fun _ _ x => PX.le l1 x
  rintro b s2 ⟨z2, σ2, l2, R2, q⟩
  exact ⟨z2, σ2, Z.le_trans l1 l2, R2, q⟩
theorem TTS.mono {t : Sem α} {P P' : Z → α → St → Prop} (h : TTS C z₀ t P X σ) (k : ∀ z a σ', Z.le z₀ z → P z a σ' → P' z a σ') : TTS C z₀ t P' X σ := by
  intro zs z s hz hR
  refine wpS_mono (h zs z s hz hR) ?_ fun _ _ x => x
  rintro a s1 ⟨z1, σ1, l1, R1, q⟩
  exact ⟨z1, σ1, l1, R1, k _ _ _ (Z.le_trans hz l1) q⟩
theorem TTS.holding {vs : List Value} {t : Sem α} {P : Z → α → St → Prop} (h : TTS C z₀ t P X σ) : TTS C z₀ (PySem.holding vs t) P X σ :=
  fun zs z s hz hR => wpS_holding (h zs z s hz hR)
theorem TTS.at_ {p : Pos} {f : Unit → Sem α} {P : Z → α → St → Prop} (h : TTS C z₀ (f ()) P X σ) : TTS C z₀ (standAt p >>= f) P X σ :=
  fun zs z s hz hR => wpS_bind1 (wpAny_standAt (h zs z s hz hR))
end
noncomputable def TES (C : Cx) (e : Expr) (Q : V → St → Prop) (X : XP) (σ : St) : Prop := ∀ z₀, TTS C z₀ (eval e C.env) (PVal Q) X σ
noncomputable def TArgsS (C : Cx) (es : List Expr) (Q : List V → St → Prop) (X : XP) (σ : St) : Prop := ∀ pos z₀, TTS C z₀ (spliced (backTo pos (starEach es C.env))) (PArgs Q) X σ
noncomputable def TSS (C : Cx) (st : Stmt) (Q : Fl → St → Prop) (X : XP) (σ : St) : Prop := ∀ z₀, TTS C z₀ (exec st C.env) (PFl Q) X σ
noncomputable def TSsS (C : Cx) (sts : List Stmt) (Q : Fl → St → Prop) (X : XP) (σ : St) : Prop := ∀ z₀, TTS C z₀ (execs sts C.env) (PFl Q) X σ
section
variable {C : Cx} {X : XP} {σ : St} {z₀ : Z}
theorem TES.of {e : Expr} {Q : V → St → Prop} (h : TE C e Q X σ) : TES C e Q X σ := fun z₀ => TTS.of (h z₀)
theorem TArgsS.of {es : List Expr} {Q : List V → St → Prop} (h : TArgs C es Q X σ) : TArgsS C es Q X σ := fun p z₀ => TTS.of (h p z₀)
theorem TSsS.of {sts : List Stmt} {Q : Fl → St → Prop} (h : TSs C sts Q X σ) : TSsS C sts Q X σ := fun z₀ => TTS.of (h z₀)
theorem TArgsS.cons {e : Expr} {r : List Expr} {Q : List V → St → Prop} (h : TES C e (fun v σ1 => TArgsS C r (fun vs σ2 => Q (v :: vs) σ2) X σ1) X σ)
    (he : starEach (e :: r) C.env = (false, eval e C.env) :: starEach r C.env := by rfl) : TArgsS C (e :: r) Q X σ := by
  intro pos z₀
  rw [he]
  show TTS C z₀ (do
    let v ← eval e C.env
    let here ← (pure [v] : Sem (List Value))
    return here ++ (← PySem.holding here (spliced (backTo pos (starEach r C.env))))) _ X σ
  refine TTS.bind (TTS.mono (h z₀) ?_)
  rintro z a σ1 l1 ⟨va, ra, h1⟩
  refine TTS.bind (TTS.of (TT.pure fun z1 l2 => TTS.bind (TTS.holding (TTS.mono (h1 pos z1) ?_))))
  rintro z2 xs σ2 l3 ⟨vs, rs, h2⟩
  exact TTS.of (TT.pure fun z3 l4 => ⟨va :: vs, .cons (((ra.mono l2).mono l3).mono l4) (rs.mono l4), h2⟩)
theorem TES.tuple {es : List Expr} {k : Nat} {p : Pos} {Q : V → St → Prop} (h : TArgsS C es (fun vs σ1 => vs.length ≤ 16777216 ∧ Q (.tup vs) σ1) X σ) : TES C (.Tuple es k p) Q X σ := by
  intro z₀
  rw [arm_eval_Tuple]
  refine TTS.at_ (TTS.bind (TTS.mono (h p z₀) ?_))
  rintro z xs σ1 l ⟨vs, r, hn, hq⟩
  exact TTS.of (TT.newTuple r hn hq)
/-- the octets of a text, in a bytearray -/
theorem TES.bytearray {func : Expr} {args : List Expr} {pos : Pos} {Q : V → St → Prop} (h : TE C func (fun fv σ1 => fv = .con (.type "bytearray") ∧ TArgs C args (fun vs σ2 => ∃ l, vs = [.txt true l] ∧ l.length ≤ 16777216 ∧ Q (.opq "bytearray") σ2) X σ1) X σ)
    (hp : (backTo pos (starEach args C.env)).any (·.1) = false := by rfl)
    (he : eval (.Call func args [] pos) C.env = (do callWith pos (← eval func C.env) [] (backTo pos (starEach args C.env)) []) := by rfl) : TES C (.Call func args [] pos) Q X σ := by
  intro z₀
  rw [he]
  refine TTS.bind (TTS.mono (TTS.of (h z₀)) ?_)
  rintro z fx σ1 l1 ⟨_, rf, rfl, h1⟩
  obtain ⟨_, rfl⟩ := rf.e
  intro zs z' s hz' hR
  unfold callWith
  refine wpS_bind1 (wpAny_holding (evalArgs_of hp (wpAny_mono (h1 pos z zs z' s hz' hR) ?_ fun _ _ x => x)))
  rintro xs s1 ⟨z1, σ2, l2, R1, vs, r, l, rfl, hn, q⟩
  obtain ⟨x, _, rfl, r1, t⟩ := RepL.inv r
  cases t.inv0
  obtain ⟨t, rfl, hl⟩ := r1.e
  refine wpS_bind1 (wpAny_standAt ?_)
  simp only [hp, List.any_nil, Bool.or_false]
  refine wpS_bind1 (m := keeperOf (.type "bytearray")) (wpAny_pure ?_)
  refine wpS_bind (wpS_mono (Q := Post C zs z' (PVal Q)) (E := PX C zs z' X) ?_ (fun a s2 p => wpS_of (wpAny_bind (wpAny_holding (wpAny_point (wpAny_pure p))))) fun _ _ x => x)
  show wpS _ _ (PySem.call (.type "bytearray") [.bytes (l.map UInt8.ofNat).toArray t] []) _ _ _
  refine BA.call _ t (by simpa using hn) fun h' k e => ?_
  have R2 : R C zs σ2 z1 { s1 with heap := h' } := R1.grow (t := s1.toks) k
  exact ⟨_, σ2, Z.le_trans l2 (Z.le_put R2.rh e), R2.freeze e (R1.apart_new (Nat.le_refl _)), _, .opq put_self rfl, q⟩

/-! statements -/
theorem TSsS.cons {st : Stmt} {r : List Stmt} {Q : Fl → St → Prop} (h : TSS C st (fun f σ1 => match f with | .next => TSsS C r Q X σ1 | f => Q f σ1) X σ) : TSsS C (st :: r) Q X σ := by
  intro z₀
  rw [execs_cons]
  refine TTS.bind (TTS.mono (h z₀) ?_)
  rintro z f σ1 l ⟨fl, rf, h1⟩
  cases rf with
  | next => exact h1 z
  | brk => exact TTS.of (TT.pure fun z' l' => ⟨.brk, .brk, h1⟩)
  | cont => exact TTS.of (TT.pure fun z' l' => ⟨.cont, .cont, h1⟩)
  | ret rv => exact TTS.of (TT.pure fun z' l' => ⟨.ret _, .ret (rv.mono l'), h1⟩)
theorem TSsS.cons1 {st : Stmt} {r : List Stmt} {Q : Fl → St → Prop} (h : TS C st (fun f σ1 => match f with | .next => TSsS C r Q X σ1 | f => Q f σ1) X σ) : TSsS C (st :: r) Q X σ := TSsS.cons fun z₀ => TTS.of (h z₀)
theorem wpS_For {M : Model} {A : Around} {E : Value → Shared → Prop} {s : Shared} {env : Env} {target iter : Expr} {body orelse : List Stmt} {pos : Pos} {Q : Flow → Shared → Prop}
    (h : wpS M A (eval iter env) (fun x s₁ => wpAny M A (pyIter x) (fun it s₂ =>
      codeAny M A (.forLoop target it body orelse env) (fun r s' => match r with | .ok f => Q f s' | .error e => cameBackBy M A env E e s') s₂) E s₁) E s)
    (hs : ∀ x, foldedSetIterable iter env x = pure x := by intro _; rfl) : wpS M A (exec (.For target iter body orelse pos) env) Q E s := by
  rw [exec_For]
  refine wpS_bind1 (wpAny_standAt (wpS_bind (wpS_mono h (fun x s₁ h₁ => wpS_of ?_) fun _ _ h' => h')))
  exact wpAny_bind (wpAny_of_eq (hs x) (wpAny_bind (wpAny_standAt (wpAny_bind (wpAny_holding (wpAny_mono h₁ (fun it s₂ h₂ => wpAny_runOwn h₂) fun _ _ h' => h'))))))
theorem for_rest {target : Expr} {body orelse : List Stmt} {Q : Fl → St → Prop} (hh : C.A.handled = none) {zs z z1 : Z} {σ1 : St} {s1 : Shared} {x : Value} {v : V} (l1 : Z.le z z1) (R1 : R C zs σ1 z1 s1) (rv : Rep z1 v x)
    (h : ForH C target body orelse Q v σ1) : wpAny C.M C.A (pyIter x) (fun it s₂ =>
      codeAny C.M C.A (.forLoop target it body orelse C.env) (fun r s' => match r with | .ok f => Post C zs z (PFl Q) f s' | .error e => cameBackBy C.M C.A C.env (PX C zs z X) e s') s₂) (PX C zs z X) s1 := by
  obtain ⟨vs, S, W, Inv, i0, iS, turn, fin⟩ := h
  obtain ⟨J, WO, st⟩ := W.start z1 x rv
  have WO := WO C.A hh
  refine st zs z1 σ1 s1 _ _ (Z.le_refl _) R1 (iS _ _ i0) fun o hJ hfr => ?_
  generalize hI : s1.heap.objs.size = I
  have zsI : zs I = none := R1.rh.fresh_zs (Nat.le_of_eq hI)
  have R2 : R C (zs.put I o) σ1 z1 { s1 with heap := s1.heap.push o } := by
    refine (R1.push' o).hideAt ?_ (R1.rh.fresh_z (Nat.le_of_eq hI)) (R1.apart_new (Nat.le_of_eq hI))
    rw [← hI]; exact Heap.get?_push_size _ hfr
  refine codeAny_loop' rfl (ForI C zs z1 I J Inv vs.length) (fun n s' hi => ?_) vs.length ⟨0, σ1, z1, o, rfl, Nat.zero_le _, Z.le_refl _, R2, hJ, i0⟩
  obtain ⟨i, σ', z', o', hn, hile, lz, R', hJ', inv⟩ := hi
  obtain ⟨fs, hfs⟩ := WO.fields _ _ hJ'
  have stay := Stays.fields hfs
  have hat := R'.rh.hidden put_self stay
  show wpAny _ _ ((forTurn target (.ref I) body orelse C.env).onRaise (fun x => do noteFrame x C.env; theTreesLotGoes x)) _ _ s'
  refine wpAny_noted ?_
  simp only [forTurn]
  refine wpAny_bind (wpAny_standAt (wpAny_bind (wpAny_onRaise ?_)))
  rcases Nat.lt_or_ge i vs.length with hlt | hge
  · have hv : vs[i]? = some vs[i] := List.getElem?_eq_getElem hlt
    refine WO.item _ _ _ s' I o' i vs[i] _ _ hJ' hv R'.rh ⟨lz, iS _ _ inv⟩ hat fun h' t o'' val e1 hJ'' hsb rv' => ?_
    have R'' : R C (zs.put I o'') σ' z' { s' with heap := h', toks := t } := R'.iter zsI R1.fr stay hsb.extBut e1
    refine wpAny_bind (letOwned e1 (WO.cls _ _ hJ'') ?_)
    refine wpAny_bind (wpAny_mono (turn i _ σ' hv inv z' val rv' _ _ _ (Z.le_refl _) R'') ?_ fun _ _ x => x.absurd)
    rintro ⟨⟩ s3 ⟨z3, σ3, l3, R3, k3⟩
    refine wpAny_bind (wpAny_mono (k3 z3 _ _ _ (Z.le_refl _) R3) ?_ fun _ _ x => x.absurd)
    rintro f s4 ⟨z4, σ4, l4, R4, fl, rf, k4⟩
    have lz' := Z.le_trans (Z.le_trans lz l3) l4
    obtain ⟨fs', hfs'⟩ := WO.fields _ _ hJ''
    have again : Inv (i + 1) σ4 → ∃ m, m < n ∧ ForI C zs z1 I J Inv vs.length m s4 :=
      fun k4 => ⟨vs.length - (i + 1), by omega, i + 1, σ4, z4, o'', rfl, by omega, lz', R4, hJ'', k4⟩
    have out := R4.unhide zsI R1.fr (Stays.fields hfs') (t := s4.toks) (h' := s4.heap) fun b o _ e => e
    cases rf with
    | next => exact wpAny_pure (.inl ⟨rfl, again k4⟩)
    | cont => exact wpAny_pure (.inl ⟨rfl, again k4⟩)
    | brk => exact wpAny_pure ⟨z4, σ4, Z.le_trans l1 lz', out, .next, .next, k4⟩
    | ret rw' => exact wpAny_pure ⟨z4, σ4, Z.le_trans l1 lz', out, .ret _, .ret rw', k4⟩
  · have he : i = vs.length := by omega
    subst he
    refine WO.fin _ _ _ s' I o' _ _ hJ' R'.rh ⟨lz, iS _ _ inv⟩ hat fun h' hx => ?_
    refine wpAny_pure (.inr ⟨rfl, codeAny_block ?_⟩)
    have R'' : R C zs σ' z' { s' with heap := h' } := R'.unhide zsI R1.fr stay hx
    refine wpAny_mono (fin σ' inv z' zs z' _ (Z.le_refl _) R'') ?_ fun _ _ x => x.absurd
    rintro f s4 ⟨z4, σ4, l4, R4, q⟩
    exact ⟨z4, σ4, Z.le_trans l1 (Z.le_trans lz l4), R4, q⟩
theorem TSS.for_ {target iter : Expr} {body orelse : List Stmt} {pos : Pos} {Q : Fl → St → Prop} (hh : C.A.handled = none)
    (h : TES C iter (ForH C target body orelse Q) X σ)
    (hs : ∀ x, foldedSetIterable iter C.env x = pure x := by intro _; rfl) : TSS C (.For target iter body orelse pos) Q X σ := by
  intro z₀ zs z s hz hR
  refine wpS_For ?_ hs
  refine wpS_mono (h z₀ zs z s hz hR) ?_ fun _ _ x => x
  rintro x s1 ⟨z1, σ1, l1, R1, v, rv, k⟩
  exact for_rest hh l1 R1 rv k
end

/-! a function of the text, entered where no octets are held -/
section
variable {prog : Program} {w : World} {A : Around} {R : Result → Shared → Prop} {s : Shared}
theorem codeS_func {body : List Stmt} {env : Env}
    (h : wpS (model prog w) (A.deeper env) (execs body env) (fun f s' => R (.ok (.ret (match f with | .ret v => v | _ => .none))) s')
      (fun e s' => wpAny (model prog w) (A.deeper env) (leaving env e) (fun _ s'' => R (.error e) s'') (fun e' s'' => R (.error e') s'') s') s) :
    codeS (model prog w) A (.func body env) R s := by
  refine codeS_of_tree rfl ?_
  show wpS _ (A.deeper env) (do point; match ← (execs body env).onRaise (leaving env) with | .ret v => ret v | _ => ret .none) _ _ s
  refine wpS_bind1 (wpAny_point (wpS_bind (wpS_onRaise (wpS_mono h (fun f s' h' => ?_) fun _ _ h' => h'))))
  cases f <;> exact wpS_of (wpAny_pure h')
theorem codeS_call_function {a : Addr} {args : Args} {o : Obj} {fd : FuncData} {body : List Stmt} (hroom : A.depth < recursionLimit)
    (ho : s.heap.get? a = some o) (hd' : o.data = .func fd) (hco : fd.scope.isCoroutine = false) (hgen : fd.scope.isGenerator = false) (hbody : fd.body = .stmts body) (hcd : s.heap.CodeRec fd.code fd.qualname)
    (h : wpAny (model prog w) A.in1 (bindArgs fd args) (fun binds s₁ =>
      wpAny (model prog w) A.in1 (newFunctionEnv fd.scope fd.globals fd.closure binds (fd.qualname ++ ".<locals>.") (some a) fd.code none fd.builtins)
        (fun env s₂ => s₂.heap.NoLimit ∧ codeS (model prog w) A (.func body env) R s₂) (fun e s' => R (.error e) s') s₁) (fun e s' => R (.error e) s') s) :
    codeS (model prog w) A (.call (.ref a) args) R s := by
  refine codeS_of_tree rfl (wpS_of ?_)
  show wpAny _ A.in1 (callAny (.ref a) args) _ _ s
  simp only [callAny]
  refine wpAny_bind (wpAny_load ho ?_)
  obtain ⟨c, oc, vs, tq, hc, hoc, hdc, hq⟩ := hcd
  simp only [hd', callFunction, hco, hgen, hbody, hc]
  rw [hc] at h
  refine wpAny_bind (m := field (.ref c) 1) (wpAny_field hoc hdc hq (wpAny_bind (wpAny_pure ?_)))
  refine wpAny_bind (wpAny_mono h (fun binds s₁ h₁ => wpAny_bind (wpAny_mono h₁ (fun env s₂ h₂ => ?_) fun _ _ x => x)) fun _ _ x => x)
  exact wpAny_bind (wpAny_enterFrame h₂.1 hroom (wpAny_pure ⟨rfl, h₂.2⟩))
end
theorem codeS_mono {M : Model} {A : Around} {c : Code} {R R' : Result → Shared → Prop} {s : Shared} (h : codeS M A c R s) (hr : ∀ r s', R r s' → R' r s') : codeS M A c R' s := fun Γ p hc hΓ h2 =>
  let ⟨r, s', a, b⟩ := h Γ p hc hΓ h2; ⟨r, s', a, hr r s' b⟩
end PL

end
section
open PySem PySem.Calls PyProof.Rows
set_option Elab.async false
set_option linter.unusedVariables false
set_option linter.unusedSimpArgs false
set_option maxRecDepth 100000
namespace PL
/-- the frame is made, the names are bound, the body runs -/
theorem enter_fnS {g : Gd} {n : Nat} {a : Addr} {fd : FuncData} {body : List Stmt} {sc : Scope} {Q : V → Led → Prop} {X : XL} {H : Led} {A : Around} {outer : List Env} {zs z : Z} {s : Shared} {lv : List (Str × V)} {binds : List (Str × Value)} {R' : Result → Shared → Prop} {E : Value → Shared → Prop} (F : FnB g a fd body sc)
    (hd : A.depth + (n + 1) ≤ 900) (hu : A.units + 20 * (n + 1) ≤ 9000) (hfr : A.frames = some outer) (hh : A.handled = none) (hfk : FrOK outer zs) (rh : RH g zs H z s) (rb : RepB z lv binds)
    (hnames : ∀ x ∈ lv.map (·.1), sc.names.lookup x = some .local ∨ sc.names.lookup x = some .cell)
    (hR : ∀ r s', (match r with
      | .ok (.ret val) => ∃ z' H' v, Z.le z z' ∧ RH g zs H' z' s' ∧ Rep z' v val ∧ Q v H'
      | .ok _ => False
      | .error e => ∃ z' H' cls, Z.le z z' ∧ RH g zs H' z' s' ∧ Fly g zs H' z' outer s' e cls ∧ X cls H') → R' r s')
    (h : ∀ C : Cx, In C g n sc → C.ro = [] → OwnFr C → TSsS C body (fun fl σ' => Q (match fl with | .ret v => v | _ => .none) σ'.H) (fun cls σ' => X cls σ'.H) ⟨bindV lv [], H⟩) :
    wpAny (model g.prog g.w) A.in1 (newFunctionEnv fd.scope fd.globals fd.closure binds (fd.qualname ++ ".<locals>.") (some a) fd.code none fd.builtins) (fun env s₂ => s₂.heap.NoLimit ∧ codeS (model g.prog g.w) A (.func body env) R' s₂) E s := by
  have hb := rh.base
  rw [F.closure]
  refine wpAny_newFunctionEnv_cells (by rw [F.scope]; exact F.kind) ?_ fun env he s₁ hin => ?_
  · intro x hx
    rw [F.scope]
    have hm : x.1 ∈ lv.map (·.1) := by rw [← rb.fst]; exact List.mem_map_of_mem (f := (·.1)) hx
    rcases hnames x.1 hm with e | e
    · exact .inl e
    · exact .inr ⟨e, PySem.W.cellsFrom_some _ _ _ (.inl e)⟩
  subst he
  refine ⟨(g.lim.keeps hb).keeps hin.toInCall.keep, codeS_func ?_⟩
  rw [F.scope, F.globals, F.builtins] at hin ⊢
  let C : Cx := {
    g := g, A := A.deeper (newEnv sc s.heap.objs.size mainGlobals (cellsFrom (s.heap.objs.size + 1) sc.names []) (fd.qualname ++ ".<locals>.") (some a) fd.code none builtinsNs)
    env := newEnv sc s.heap.objs.size mainGlobals (cellsFrom (s.heap.objs.size + 1) sc.names []) (fd.qualname ++ ".<locals>.") (some a) fd.code none builtinsNs
    outer := outer, n := n, hk := F.kind, hglob := rfl, hbuilt := rfl
    hdep := by show A.depth + 1 + n ≤ 900; (clear hin s₁ hb h hR hnames rb rh hfk hh hfr hu F E R' binds lv s z zs outer H X Q sc body fd a g; (first | lia | omega))
    hunits := by show A.units + 3 + 20 * n ≤ 9000; (clear hin s₁ hb h hR hnames rb rh hfk hh hfr hd F E R' binds lv s z zs outer H X Q sc body fd a g; (first | lia | omega))
    hframes := .inl ⟨by show (A.frames.map _) = _; rw [hfr]; rfl, rfl⟩
    apart := hin.apart }
  have hIn : In C g n sc := ⟨rfl, rfl, fun x => rfl, fun x hx => by
    have := PySem.W.cellsFrom_some (x := x) sc.names (s.heap.objs.size + 1) [] (.inl hx)
    exact Option.isSome_iff_exists.mp this, hh, rfl, rfl⟩
  have hnew : ∀ b, s.heap.objs.size ≤ b → z b = none ∧ zs b = none ∧ b ∉ H.map (·.1) := fun b hb => ⟨rh.fresh_z hb, rh.fresh_zs hb, rh.fresh_H hb⟩
  obtain ⟨hrepL, hrepC⟩ := bind_reps (kindOf := C.env.kindOf) rb [] (fun _ => none) (fun _ => none) (fun x v e => by simp at e) (fun x v e => by simp at e)
  obtain ⟨h₁, tk, hs₁⟩ := hin.toInCall.same
  have hR0 : R C zs ⟨bindV lv [], H⟩ z s₁ := by
    refine ⟨?_, ⟨_, hin.toInCall.ns, fun x v e k => hrepL x v e k⟩, fun x v e k => ?_, fun p hp => ?_, ?_, hfk⟩
    · rw [hs₁]
      exact rh.grow fun b o e => by
        have := hin.toInCall.keep b o e
        rw [hs₁] at this; exact this
    · obtain ⟨val, e1, r⟩ := hrepC x v e (fun q => by rw [q] at k; cases k)
      have hm := (bindV_mem lv [] e).resolve_right (by simp)
      have hk : sc.names.lookup x = some .cell := by
        rcases hnames x hm with q | q
        · have : cellish (sc.names.lookup x) = true := k
          rw [q] at this; cases this
        · exact q
      have hlk : (cellsFrom (s.heap.objs.size + 1) sc.names []).lookup x ≠ none := by
        have := PySem.W.cellsFrom_some (x := x) sc.names (s.heap.objs.size + 1) [] (.inl hk)
        intro q; rw [q] at this; cases this
      obtain ⟨c, hc⟩ := Option.ne_none_iff_exists'.mp hlk
      refine ⟨c, val, hc, ?_, r⟩
      have := hin.cell x c hc
      rw [show bindC C.env.kindOf binds (fun _ => none) x = some val from e1] at this
      exact this
    · have hlt := hin.above p.1 p.2 hp
      obtain ⟨q1, q2, q3⟩ := hnew p.2 (Nat.le_of_lt hlt)
      have hlk : (cellsFrom (s.heap.objs.size + 1) sc.names []).lookup p.1 = some p.2 :=
        lookup_of_mem (by rw [cellsFrom_keys sc.names _ 0 [] [] rfl]; exact F.nodup) hp
      exact ⟨⟨_, hin.cell _ _ hlk⟩, q1, .inl q2, Nat.ne_of_gt hlt, q3⟩
    · obtain ⟨q1, q2, q3⟩ := hnew s.heap.objs.size (Nat.le_refl _)
      exact ⟨q1, q2, q3⟩
  have hOwn : OwnFr C := ⟨by show (A.frames.map _) = _; rw [hfr]; rfl, rfl⟩
  refine wpS_mono (h C hIn rfl hOwn z zs z s₁ (Z.le_refl _) hR0) ?_ ?_
  · rintro fl s2 ⟨z2, σ2, l2, R2, f, rf, q⟩
    cases rf with
    | ret r => exact hR _ _ ⟨z2, _, _, l2, R2.rh, r, q⟩
    | next => exact hR _ _ ⟨z2, _, _, l2, R2.rh, .none, q⟩
    | brk => exact hR _ _ ⟨z2, _, _, l2, R2.rh, .none, q⟩
    | cont => exact hR _ _ ⟨z2, _, _, l2, R2.rh, .none, q⟩
  · rintro e s2 ⟨z2, σ2, cls, fr, l2, R2, q, fl, x⟩
    have q' : C.A.frames = some (C.env :: outer) := by show (A.frames.map _) = _; rw [hfr]; rfl
    rw [q'] at q
    cases q
    exact leave_fly q' (L := C.env.locals) rfl fl R2.rh fun h' r' fl' => hR _ _ ⟨z2, σ2.H, cls, l2, r', fl', x⟩

/-- what a call of a function does, for a caller whose stack holds no octets -/
noncomputable def CallS (g : Gd) (n : Nat) (f : Value) (vs : List V) (Q : V → Led → Prop) (X : XL) (H : Led) : Prop :=
  ∀ (A : Around) (outer : List Env) (zs z : Z) (s : Shared) (xs : List Value), A.depth + n ≤ 900 → A.units + 20 * n ≤ 9000 → A.frames = some outer → A.handled = none → FrOK outer zs → RH g zs H z s → RepL z vs xs →
    codeS (model g.prog g.w) A (.call f ⟨xs, []⟩) (fun r s' => match r with
      | .ok (.ret val) => ∃ z' H' v, Z.le z z' ∧ RH g zs H' z' s' ∧ Rep z' v val ∧ Q v H'
      | .ok _ => False
      | .error e => ∃ z' H' cls, Z.le z z' ∧ RH g zs H' z' s' ∧ Fly g zs H' z' outer s' e cls ∧ X cls H') s
theorem CallS.def_ {g : Gd} {n : Nat} {a : Addr} {fd : FuncData} {body : List Stmt} {sc : Scope} {params : List Str} {vs : List V} {Q : V → Led → Prop} {X : XL} {H : Led} (F : IsFn g a fd body sc params) (hlen : vs.length = params.length)
    (h : ∀ C : Cx, In C g n sc → C.ro = [] → TSsS C body (fun fl σ' => Q (match fl with | .ret v => v | _ => .none) σ'.H) (fun cls σ' => X cls σ'.H) ⟨bindV (params.zip vs) [], H⟩) : CallS g (n + 1) (.ref a) vs Q X H := by
  intro A outer zs z s xs hd hu hfr hh hfk rh rv
  obtain ⟨o, ho, hdata⟩ := F.b.at_
  refine codeS_call_function (by show A.depth < 1000; omega) (rh.base _ _ ho) hdata (by rw [F.b.scope]; exact F.b.co) (by rw [F.b.scope]; exact F.b.gen) F.b.body (F.b.code.keeps rh.base) ?_
  rw [F.bind xs (by rw [rv.length, hlen])]
  exact wpAny_pure (enter_fnS F.b hd hu hfr hh hfk rh (RepB.zip params rv) (zip_names F.names) (fun _ _ k => k) fun C a b _ => h C a b)
end PL

end
section
open PySem PySem.Calls PyProof.Rows
set_option Elab.async false
set_option linter.unusedVariables false
set_option linter.unusedSimpArgs false
set_option maxRecDepth 100000
namespace PL
open PySem.W
/-- the tree looks at its stack first; where octets are held it tells True at once -/
noncomputable def looked (name : PySem.Str) (vs : List Value) : Sem PySem.Fin := .stack fun l =>
  if l.all (fun x => clean x.1) = true then (callStub name vs).cur else ret (.bool true)
noncomputable def lookRun (f : Value) (vs : List Value) : Sem Value := .stack fun l => if l.all (fun x => clean x.1) = true then PySem.call f vs else pure (.bool true)
theorem look_any {α : Type} {M : Model} {A : Around} {t u : Sem α} {Q : α → Shared → Prop} {E : Value → Shared → Prop} {s : Shared} (h : wpS M A t Q E s)
    (k : ∀ Γ p, Γ.In A → ¬ ((Γ.code, p) :: Γ.below).all (fun x => clean x.1) = true → Sem.wp M Γ u (fun a _ s' => Q a s') (fun e _ s' => E e s') p s) :
    wpAny M A (.stack fun l => if l.all (fun x => clean x.1) = true then t else u) Q E s := fun Γ p hΓ => by
  rw [Sem.wp_stack]
  by_cases hc : ((Γ.code, p) :: Γ.below).all (fun x => clean x.1) = true
  · rw [if_pos hc]
    have hc := List.all_eq_true.mp hc
    exact h Γ p hΓ (hc _ List.mem_cons_self) fun x hx => hc x (List.mem_cons_of_mem _ hx)
  · rw [if_neg hc]
    exact k Γ p hΓ hc
theorem unlook {α : Type} {M : Model} {A : Around} {t u : Sem α} {Q : α → Shared → Prop} {E : Value → Shared → Prop} {s : Shared} (h : wpAny M A (.stack fun l => if l.all (fun x => clean x.1) = true then t else u) Q E s) : wpS M A t Q E s := fun Γ p hΓ h1 h2 => by
  have k := h Γ p hΓ
  rw [Sem.wp_stack, if_pos (List.all_eq_true.mpr fun x hx => by
    rcases List.mem_cons.mp hx with rfl | hx
    · exact h1
    · exact h2 x hx)] at k
  exact k
/-- a caller's stack holds none: the look goes -/
theorem look_step {prog : Program} {w : World} {name : PySem.Str} {vs : List Value} {s s' : Shared} {o : Outcome} {n : Nat} (hz : s.asleep)
    (h : schedN (denote table) prog w n (.single s ⟨looked name vs, .builtin "claim.caller" {}, default, []⟩) = .halted o s') :
    ∃ n, schedN (denote table) prog w n (.single s (callStub name vs)) = .halted o s' := by
  cases n with
  | zero => cases h
  | succ n =>
    refine ⟨n, ?_⟩
    have e : step (denote table) prog w s ⟨looked name vs, .builtin "claim.caller" {}, default, []⟩ = .go s (callStub name vs) := by
      obtain ⟨a, b, c, d, e⟩ := s
      rfl
    have k := sstep_single (den := denote table) (prog := prog) (w := w) s ⟨looked name vs, .builtin "claim.caller" {}, default, []⟩ rfl hz
    rw [e] at k
    rcases k with k | k
    · unfold schedN at h
      rw [k] at h
      exact h
    · cases k
theorem look_from {c : ClaimW} {name : PySem.Str} {w : World} {free : Addr → Prop} {gens : Prop} {kept : Heap → Prop} {s : Shared} (hz : s.asleep)
    (h : c.CallFrom (fun vs => ⟨looked name vs, .builtin "claim.caller" {}, default, []⟩) w free gens kept s) : c.CallFrom (callStub name) w free gens kept s := by
  intro args h1 h2 ord h3
  obtain ⟨vs, s₁, l, n, o, s', r, rest⟩ := h args h1 h2 ord h3
  obtain ⟨m, r'⟩ := look_step (Shared.asleep_of_life (layAllW_rest _ _ _ l).2.2.2 hz) r
  exact ⟨vs, s₁, l, m, o, s', r', rest⟩
theorem look_holds {c : ClaimW} {name : PySem.Str} {defs keeps : List PySem.Str} {writes : Bool} (h : c.HoldsOpenBy (fun vs => ⟨looked name vs, .builtin "claim.caller" {}, default, []⟩) defs keeps writes) : c.HoldsOpenBy (callStub name) defs keeps writes := by
  refine ⟨h.1, h.2.1, fun w => ⟨(h.2.2 w).1, fun s hs => ?_⟩⟩
  obtain ⟨s₀, hf, hg, s₁, hT, d, e1, e2, cf⟩ := (h.2.2 w).2 s hs
  have hA : AfterImport (opening c.prog) w s := hs
  exact ⟨s₀, hf, hg, s₁, hT, d, e1, e2, look_from (Shared.asleep_of_life (hT.2.1.trans (fence_lifeW hf)) hA.life) cf⟩

noncomputable abbrev WalkS (q : Program) (loose : List PySem.Str) (XP : (PySem.Str → Option Value) → Heap → Prop) (YP : World → Heap → Prop) (r : RowW) (d : DefRec) (kwd : List (PySem.Str × Expr)) : Prop :=
  ∀ (w : World) (s₀ s₁ : Shared) (mg mb : PySem.Str → Option Value), Ground q loose r.records XP w s₀ mg mb s₁.heap → YP w s₁.heap → ∀ (a : Addr) (o : Obj) (pm cd doc dV kV : Value), s₁.heap.get? a = some o →
    o.data = .func { docDef d.name d.params d.body d.scope pm cd doc with defaults := dV, kwdefaults := kV } → s₁.heap.CodeRec cd d.name → Dflts mg s₁.heap d.params kwd dV kV → mg d.name = some (.ref a) → s₁.gens = #[] →
    ∀ (args : List WData) (vals : List Value) (as : List Addr), r.claim.pre args = true → WData.layableAll args = true → ReadsAllW r.records (classAt s₀.heap) s₁.heap vals args as → WellAll w.params s₁.heap vals args → (∀ a ∈ as, (a == sysModules) = false) →
      codeS (model r.prog w) callerA (.call (.ref a) ⟨vals, []⟩) (GoodW r.claim (classAt s₀.heap) (ExcName.means s₀.heap) args s₁) s₁ ∧ GoodW r.claim (classAt s₀.heap) (ExcName.means s₀.heap) args s₁ (.ok (.ret (.bool true))) s₁
end PL
open PySem.W
/-- the head of a law whose call is known at a stack that holds no octets (o_head takes it under this name, within the namespace PH) -/
theorem PH.PySem.W.holds_open {r : OpenRow} {q : Program} {loose : List PySem.Str} {Xt : Shared → Bool} {XP : (PySem.Str → Option Value) → Heap → Prop} {α : Type} {Yf : Shared → α} {Ya : World → α} {YP : World → Heap → Prop} {d : DefRec} {kwd : List (PySem.Str × Expr)} {N : Nat}
    (left : LeftO r.prog q loose Xt Yf Ya N) (hY : ∀ w s, Yf s = Ya w → YP w s.heap) (hYk : ∀ w h h', YP w h → (∀ b o, h.get? b = some o → h'.get? b = some o) → YP w h')
    (hX : ∀ s, Xt s = true → XP (s.heap.nsMap mainGlobals) s.heap) (hXk : ∀ mg h h', XP mg h → (∀ b o, h.get? b = some o → h'.get? b = some o) → XP mg h')
    (hdef : defOf q r.name = some (d, kwd)) (hp : r.prog.theDef r.name = some (d.params, d.body, d.scope)) (hk : kwWritten? d.params.kwonlyargs d.params.kw_defaults = some kwd) (hRf : ∀ s, Xt s = true → RecFacts r.records s.heap) (hwr : (!r.writes || r.records.isEmpty) = true)
    (k1 : r.wellSaid = true) (ok : (chainsOk q && opensWell r.prog && (frees r.toRowW && r.within.isEmpty)) = true) (hb : r.prog.bare) (hw : r.toRowW.promised)
    (call : PL.WalkS q loose XP YP r.toRowW d kwd) : r.Holds := by
  refine ⟨k1, hw, PL.look_holds (open_anyG (r := r.toRowW) (run := PL.lookRun) (tree := PL.looked r.name) left hY hYk hX hXk hRf hwr ok hb hw ?_ (fun w s hg G n hn => ?_) fun w s₀ s₁ mg mb G Y args vs as hpre hlay L low => ?_)⟩
  · intro vs w s mg f Q E hg hf h
    refine PL.look_any (t := (callStub r.name vs).cur) ?_ ?_
    · refine PL.wpS_bind1 (wpAny_nsGet hg ?_)
      rw [hf]
      exact PL.wpS_bind (PL.wpS_mono (PL.unlook h) (fun _ _ x => PL.wpS_of (wpAny_pure x)) fun _ _ x => x)
    · intro Γ p hΓ hc
      have k := h Γ p hΓ
      unfold PL.lookRun at k
      rw [Sem.wp_stack, if_neg hc] at k
      exact k
  · obtain rfl : n = r.name := by split at hn <;> simp_all
    exact pinned_of_view hg G hdef hp hk
  · obtain ⟨a, o, pm, cd, doc, dV, kV, h1, h2, h3, h4, h5⟩ := G.fn hdef
    obtain ⟨x, y⟩ := call w s₀ s₁ mg mb G Y a o pm cd doc dV kV h2 h3 h4 h5 (defOf_name hdef ▸ h1) L.gens args vs as hpre hlay L.reads L.well (L.low low)
    refine ⟨.ref a, h1, PL.look_any (PL.wpS_call (PL.codeS_mono x fun res s' g => ?_)) fun Γ p hΓ _ => y.toG⟩
    rcases g.1 with ⟨v, _, _, rfl, _⟩ | ⟨e, _, _, rfl, _⟩ <;> exact g.toG

end
section
open PySem PySem.W PySem.Calls PyProof.Rows
set_option Elab.async false
set_option linter.unusedVariables false
set_option linter.unusedSimpArgs false
set_option maxRecDepth 100000
namespace PL
theorem finishS {p : Program} {loose : List PySem.Str} {mean : ExcName → Option Value} {mg mb : PySem.Str → Option Value} {prog : Program} {w : World} {s : Shared} (T : Top p loose mean mg mb s.heap) (hg : s.gens = #[]) {fa l : Addr} {xs : List Int} {P : Params}
    (hw : Well P s.heap (.ref l) (ofPy (.list (xs.map .int)))) {c : ClaimW} {cl : PySem.Str → Option Addr} {mean' : ExcName → Option Value} {args : List WData}
    (main : CallS (gdOf prog w s T) 100 (.ref fa) [.lst (xs.map .int)] (fun v _ => v = .bool true) (fun _ _ => False) [])
    (hn : ∀ cls, c.raises args cls = false) (hp : c.post args (.bool true) args = true) :
    codeS (model prog w) callerA (.call (.ref fa) ⟨[.ref l], []⟩) (GoodW c cl mean' args s) s ∧ GoodW c cl mean' args s (.ok (.ret (.bool true))) s := by
  have rh : RH (gdOf prog w s T) (fun _ => none) [] (fun a => s.heap.get? a) s :=
    ⟨fun _ _ e => e, fun _ _ e => e, fun _ _ e => (by cases e), fun _ _ e => (by cases e), fun _ h => (by cases h), List.nodup_nil, hg, rfl⟩
  have hl : Rep (fun a => s.heap.get? a) (.lst (xs.map .int)) (.ref l) := by
    cases hw with
    | list e ha => exact .lst (n := 0) e (wellInts _ _ ha)
  refine ⟨codeS_mono (main callerA [] (fun _ => none) _ s _ (by decide +kernel) (by decide +kernel) rfl rfl ⟨fun e he => (by cases he)⟩ rh (.cons hl .nil)) ?_,
    .inl ⟨_, .bool true, [], rfl, hn, .bool true, hp, fun _ => ⟨List.nodup_nil, fun _ h => (by cases h)⟩⟩, fun b o e => e, rfl, hg⟩
  intro r s' hr
  cases r with
  | ok fl =>
    cases fl with
    | ret val =>
      obtain ⟨z', H', v, lz, r', rv, rfl⟩ := hr
      obtain ⟨_, rfl⟩ := rv.e
      exact ⟨.inl ⟨_, .bool true, [], rfl, hn, .bool true, hp, fun _ => ⟨List.nodup_nil, fun _ h => (by cases h)⟩⟩, fun b o e => r'.hz b o (r'.hbase b o e), r'.os, r'.gens⟩
    | _ => exact hr.elim
  | error e =>
    obtain ⟨_, _, _, _, _, _, x⟩ := hr
    exact x.elim
end PL

end
section
open PySem PySem.Calls PyProof.Rows
set_option Elab.async false
set_option linter.unusedVariables false
set_option linter.unusedSimpArgs false
set_option maxRecDepth 100000
namespace PL
namespace BA
theorem slot_ga : Slot "bytearray" "__getattribute__" "bytearray.__getattribute__" :=
  .of (owner := "bytearray") (n := "__getattribute__") (by rw [typeLookup_type, builtinLookup_eq_fast]; kernel_rfl) (by decide +kernel) (by decide +kernel) (by decide +kernel)
    (by first | exact .inl (by decide +kernel) | exact .inr (by decide +kernel)) (by rw [isSubtype_type]; kernel_rfl)
theorem args_ga (a b : Value) : argsOk "bytearray.__getattribute__" ⟨[a, b], []⟩ := by unfold argsOk; kernel_rfl
theorem entry_ga : entryFor table "bytearray.__getattribute__" = some Builtin.«object.__getattribute__» :=
  entryFor_alias (id' := "object.__getattribute__") (by rw [fastTable_eq_tree]; kernel_rfl) (by first | rfl | decide +kernel) (by decide +kernel) (by rw [fastTable_eq_tree]; kernel_rfl)
theorem lk_class : typeLookup (.type "bytearray") "__class__" = pure (some (.builtin "object.__class__")) := by rw [typeLookup_type, builtinLookup_eq_fast]; kernel_rfl
theorem sub_owner : isSubtype (.type "bytearray") (.type (".".intercalate ("object.__class__".cutAt '.').dropLast)) = pure true := by
  rw [F.owner_object_class, isSubtype_type]; kernel_rfl
section
variable {prog : Program} {w : World} {A : Around} {E : Value → Shared → Prop} {h : Heap} {g : Array GenState} {d : Drawn} {t : Nat} {os : OsState} {a : Addr} {o : Obj}
theorem kind_get {R : Result → Shared → Prop} (hx : h.get? a = some o) (hc : o.cls = .type "bytearray") (hq : R (.ok (.ret (.type "bytearray"))) ⟨h, g, d, t, os⟩) :
    codeAny (model prog w) A (.call (.builtin "getset_descriptor.__get__") ⟨[.builtin "object.__class__", .ref a, .type "bytearray"], []⟩) R ⟨h, g, d, t, os⟩ := by
  have hT : (⟨h, g, d, t, os⟩ : Shared).TypeIs (.ref a) "bytearray" := ⟨_, hx, hc⟩
  have hT5 : (⟨h, g, d, t, os⟩ : Shared).TypeIs (.builtin "object.__class__") "getset_descriptor" := F.typeOf_object_class
  have f8 := sub_owner
  refine codeAny_call_builtin F.slot_gs_get.plain F.entry_gs_get (F.slot_gs_get.check _ _ _ _ _ _ _ _ hT5 (F.args_gs_get _ _ _) ?_)
  repeat (any_goals (first | assumption | wp_step))
  refine ⟨Code.quiet_builtin _ (by decide +kernel), codeAny_builtin F.entry_object_class ?_⟩
  repeat (any_goals (first | assumption | wp_step))
theorem kind_by {tk : Tok} {Q : Value → Shared → Prop} (hx : h.get? a = some o) (hc : o.cls = .type "bytearray") (hq : Q (.type "bytearray") ⟨h, g, d, t, os⟩) : wpAny (model prog w) A (getAttrBy (.ref a) (.str "__class__" tk) false) Q E ⟨h, g, d, t, os⟩ := by
  have hT : (⟨h, g, d, t, os⟩ : Shared).TypeIs (.ref a) "bytearray" := ⟨_, hx, hc⟩
  have f2 := slot_ga.lookup
  have f3 := slot_ga.bind (.ref a)
  repeat (any_goals (first | assumption | wp_step))
  refine codeAny_call_builtin slot_ga.plain entry_ga (slot_ga.check _ _ _ _ _ _ _ _ hT (args_ga _ _) ?_)
  have hT5 : (⟨h, g, d, t, os⟩ : Shared).TypeIs (.builtin "object.__class__") "getset_descriptor" := F.typeOf_object_class
  have f4 := lk_class
  have f5 := F.typeOf_object_class
  have f6 := F.slot_gs_get.lookup
  have f7 := F.slot_gs_set.lookup
  repeat (any_goals (first | assumption | wp_step))
  refine kind_get hx hc ?_
  repeat (any_goals (first | assumption | wp_step))
theorem kind_attr {Q : Option Value → Shared → Prop} (hx : h.get? a = some o) (hc : o.cls = .type "bytearray") (hq : Q (some (.type "bytearray")) ⟨h, g, d, t + 1, os⟩) : wpAny (model prog w) A (getAttr? (.ref a) "__class__") Q E ⟨h, g, d, t, os⟩ := by
  unfold getAttr? getAttrBy?
  repeat (any_goals (first | assumption | with_reducible apply kind_by hx hc | wp_step))
theorem isi_nested {T : String} {dep : Int} {tk : Tok} {Q : Fin → Shared → Prop} (hx : h.get? a = some o) (hc : o.cls = .type "bytearray") (hne : (Value.type "bytearray" == Value.type T) = false) (hty : typeOf (.type T) = pure (.type "type"))
    (hsub : isSubtype (.type "bytearray") (.type T) = pure false) (hq : Q (.done (.ret (.bool false))) ⟨h, g, d, t + 1, os⟩) :
    wpAny (model prog w) A (Builtin.«isinstance.nested» ⟨[.ref a, .type T, .int dep tk], []⟩) Q E ⟨h, g, d, t, os⟩ := by
  have hT : (⟨h, g, d, t, os⟩ : Shared).TypeIs (.ref a) "bytearray" := ⟨_, hx, hc⟩
  repeat (any_goals (first | assumption | with_reducible apply kind_attr hx hc | wp_step))
theorem isi {a : Addr} {T : String} (hne : (Value.type "bytearray" == Value.type T) = false) (hty : typeOf (.type T) = pure (.type "type")) (hsub : isSubtype (.type "bytearray") (.type T) = pure false) :
    Meets (Builtin.«isinstance» ⟨[.ref a, .type T], []⟩) (fun _ R s => (∃ o, s.heap.get? a = some o ∧ o.cls = .type "bytearray") ∧ R (.ok (.ret (.bool false))) { s with toks := s.toks + 1 }) :=
  fun _ _ _ _ s hs => by
    obtain ⟨h, g, d, t, os⟩ := s
    obtain ⟨⟨o, hx, hc⟩, hq⟩ := hs
    exact isinstance_outer (isi_nested hx hc hne hty hsub hq)
end
end BA
section
variable {C : Cx} {X : XP} {σ : St} {Q : V → St → Prop}
theorem call_isi_ba (h : Q (.bool false) σ) : CallV C (.builtin "isinstance") [.opq "bytearray", .con (.type "bytes")] Q X σ := by
  refine CallV.of2 fun z₀ zs z s x y hz hR rx ry => ?_
  obtain ⟨_, rfl⟩ := ry.e
  obtain ⟨a, o, rfl, e, hc⟩ := rx.e
  exact call_isinstance (BA.isi (by decide +kernel) F.isi_meta_bytes F.sub_bytearray_bytes) ⟨⟨o, hR.rh.hz _ _ e, hc⟩, PVal.toks hR (.bool false) h⟩
end
theorem TSs.permLed {C : Cx} {X : XP} {st : List Stmt} {QF : Fl → St → Prop} {L : List (Str × V)} {H H' : Led} (p : H'.Perm H) (h : TSs C st QF X ⟨L, H'⟩) : TSs C st QF X ⟨L, H⟩ := by
  intro z₀ zs z s hz hR
  refine h z₀ zs z s hz ⟨{ hR.rh with hH := fun q hq => hR.rh.hH q (p.mem_iff.mp hq), nodup := ((p.map _).nodup_iff).mpr hR.rh.nodup }, hR.ns, hR.cells, fun q hq => ?_, ⟨hR.locFree.1, hR.locFree.2.1, fun e => hR.locFree.2.2 ((p.map _).mem_iff.mp e)⟩, hR.fr⟩
  obtain ⟨a, b, c, d, e⟩ := hR.cellsOk q hq
  exact ⟨a, b, c, d, fun x => e ((p.map _).mem_iff.mp x)⟩
end PL

end
open PySem PySem.Calls PyProof.Rows
set_option maxRecDepth 100000
set_option maxHeartbeats 4000000
local macro_rules
  | `(tactic| walk_at $s:str) => do
    let d := ("
pl lk=S
pl comp=r CompOK.mk d d d d d
pl kept=r Kept.biA|r Kept.tyA
pl w=R
pl le=? leA h h;r leAnd s _
pl fd=! Find.hit|! Find.hd|A Find.miss;w fd|A Find.tl;w fd
pl lo=r Lo.of k
pl lf=r lf_of k k
pl in=! BI.len|! BI.ord|! BI.chr|! BI.abs|! BI.min|! BI.max|! BI.sum|! BI.isinstance|! BI.issubclass|! BI.divmod|! BI.range|! BI.list|! BI.tuple|! BI.bytes|! BI.str|! BI.bool|! BI.type|! BI.bytearray
pl st=r In.stL a k|r In.stC a a k
pl sc=r Str1|r Str3
pl bc=r Byt1|r Byt2|r Byt3|r Byt4
pl nm=r TE.nameL a k lk _|r TE.nameC a k lk _|r TE.nameB a k a d in _
pl TE=w nm|r TE.cmp _|r TE.callB a k a d in kept _|! TE.const_int _|! TE.binop _|! TE.subsl _|! TE.sub _|! TE.str sc _|! TE.byt bc _|! TE.const_bool _|! TE.const_none _|! TE.unop _|! TE.ifexp _|! TE.tuple _|! TE.listF _
pl TS=! TS.assignR _ _ _;w st;x|A TS.augR;w st;w lk|r TS.augSub _|! TS.exprR _ _;x|! TS.ret _|! TS.if_ _|! TS.cont _|! TS.brk _|! TS.pass _
pl op=! Bin.add_int _|! Bin.sub_int _|! Inp.add_int _|! Inp.sub_int _|! Un.neg_int _|! Cmp.lt_int _|! Cmp.gt_int _|! Cmp.le_int _|! Cmp.ge_int _|! Cmp.eq_int _|! Cmp.ne_int _|! Cmp.eq_bool _|! Cmp.ne_bool _|! Cmp.eq_txt _|! Cmp.ne_txt _|! Tru.bool _|! Tru.int _|! Tru.none _
pl e=? TE h h h h h;w TE|? TS h h h h h;w TS|! TArgs.consR _ _;x|? TB h h h h h;r TB.cmp _|! TArgs.nil _|! TOpt.none _|! TOpt.some _|! TB.not _|! TB.boolop _|! TBall.and_nil _|! TBall.or_nil _|! TBall.and_cons _|! TBall.or_cons _|! TSs.nil _|! TSs.cons _|? TB h h h h h;r TB.val _|w op|@".splitOn "\n").find? (·.startsWith (s.getString ++ "="))
    let some d := d | Lean.Macro.throwUnsupported
    let mut r ← `(tactic| fail)
    for a in ((d.splitOn "=").getD 1 "").splitOn "|" |>.reverse do
      let mut b ← `(tactic| skip)
      for m in a.splitOn ";" do
        let l := m.splitOn " "
        let as ← (l.drop 2).toArray.mapM fun a => match a with
          | "_" => `(?_)
          | "h" => `(_)
          | "a" => `(by assumption)
          | "k" => `(by kernel_rfl!)
          | "d" => `(by decide +kernel)
          | "s" => `(by simp)
          | a => `(by walk_at $(Lean.Syntax.mkStrLit ("pl " ++ a)))
        let f : Lean.Term := ⟨Lean.Syntax.mkApp (Lean.mkIdent (`PL ++ (l.getD 1 "").toName)) as⟩
        let c ← match l.headD "" with
          | "r" => `(tactic| refine $f)
          | "!" => `(tactic| with_reducible refine $f)
          | "?" => `(tactic| with_reducible show $f)
          | "A" => `(tactic| with_reducible apply $f)
          | "w" => `(tactic| walk_at $(Lean.Syntax.mkStrLit ("pl " ++ l.getD 1 "")))
          | "x" => `(tactic| exact rfl)
          | "S" => `(tactic| (show List.lookup (?x : PySem.Str) ?L = some ?v; haveI : PL.Find ?L ?x ?v := (by walk_at "pl fd"); kernel_rfl!))
          | "R" => `(tactic| repeat (first | walk_at "pl e" | walk_at "pl le"))
          | _ => `(tactic| refine ⟨_, rfl, ?_⟩)
        b ← `(tactic| ($b:tactic; $c:tactic))
      r ← `(tactic| first | $b:tactic | $r:tactic)
    return r

section
open PySem PySem.Calls PyProof.Rows
set_option Elab.async false
set_option linter.unusedVariables false
set_option linter.unusedSimpArgs false
set_option maxRecDepth 100000
set_option maxHeartbeats 4000000

namespace PL
noncomputable abbrev P1 := PySem.Challenge.pw_km0084_01
theorem pars1_1 : parsAt P1 1 = [("path" : Str)] := by kernel_rfl
theorem pars1_3 : parsAt P1 3 = [("row" : Str)] := by kernel_rfl
theorem pars1_4 : parsAt P1 4 = [("script" : Str)] := by kernel_rfl
theorem sep_txt {g : Gd} {a : Addr} (hf : Fn g P1 1 a) (hb : Free g BI) {o : Bool} {l : List Nat} {Q : V → Led → Prop} {X : XL} {H : Led} (h : Q (.txt o [47]) H) : CallT g (0 + 1) (.ref a) [.txt o l] Q X H := by
  obtain ⟨hm, fd, F⟩ := hf
  refine CallT.def_ F (by rw [pars1_1]; rfl) fun C hC hro => ?_
  rw [pars1_1]
  show TSs C _ _ _ ⟨setL [] "path" (.txt o l), H⟩
  refine TSs.cons ?_
  repeat (walk_at "pl e")
  refine call_isinstance_txt (p := true) ?_
  walk_at "pl e"
  cases o
  · refine ite_f (by decide) ?_
    repeat (walk_at "pl e")
    exact h
  · refine ite_t (by decide) ?_
    repeat (walk_at "pl e")
    exact h
/-- of what is neither text nor octets -/
theorem sep_else {g : Gd} {a : Addr} (hf : Fn g P1 1 a) (hb : Free g BI) {v : V} {Q : V → Led → Prop} {X : XL} {H : Led}
    (k : ∀ (C : Cx) (X : XP) (L : List (Str × V)) (Q : V → St → Prop), Q (.bool false) ⟨L, H⟩ → CallV C (.builtin "isinstance") [v, .con (.type "bytes")] Q X ⟨L, H⟩) (h : Q (.txt false [47]) H) : CallT g (0 + 1) (.ref a) [v] Q X H := by
  obtain ⟨hm, fd, F⟩ := hf
  refine CallT.def_ F (by rw [pars1_1]; rfl) fun C hC hro => ?_
  rw [pars1_1]
  show TSs C _ _ _ ⟨setL [] "path" v, H⟩
  refine TSs.cons ?_
  repeat (walk_at "pl e")
  refine k _ _ _ _ ?_
  walk_at "pl e"
  refine ite_f (by decide) ?_
  repeat (walk_at "pl e")
  exact h
noncomputable abbrev iV (l : List Nat) : List V := l.map fun c : Nat => V.int (c : Int)
noncomputable abbrev lV (ps : List (List Nat)) : List V := ps.map fun p => V.lst (iV p)
theorem lV_snoc (ds : List (List Nat)) (cur : List Nat) : lV (ds ++ [cur]) = lV ds ++ [.lst (iV cur)] := List.map_append
theorem bump_snoc (ds : List (List Nat)) (cur : List Nat) (x : Nat) : bump (ds ++ [cur]) x = ds ++ [cur ++ [x]] := by
  unfold bump
  simp
theorem pieces_ok {g : Gd} {a : Addr} (hf : Fn g P1 3 a) (hb : Free g BI) {v : V} {l : List Nat} (hl : l.length ≤ 1000) {Q : V → Led → Prop} {X : XL} {H : Led}
    (w : v = .lst (iV l) ∨ ∃ r, v = .ref r ∧ (r, AO.list (iV l)) ∈ H) (h : Q (.lst (lV (splitS 47 l))) H) : CallT g (0 + 1) (.ref a) [v] Q X H := by
  obtain ⟨hm, fd, F⟩ := hf
  refine CallT.def_ F (by rw [pars1_3]; rfl) fun C hC hro => ?_
  rw [pars1_3]
  refine TSs.le start1 ?_
  refine TSs.cons ?_
  refine TS.assign (by walk_at "pl st") ?_
  refine TE.listM ?_
  refine TArgs.cons (TE.listM (TArgs.nil ⟨by simp, fun aI => ?_⟩)) rfl
  refine TArgs.nil ⟨by simp, fun aP => ?_⟩
  refine TSs.permLed (H' := (aI, .list []) :: (aP, .list [.ref aI]) :: H) (List.Perm.swap ..) ?_
  have hS : ∃ S : Led → Prop, Walk C v (iV l) S ∧ ∀ H' : Led, H.Sublist H' → S H' := by
    rcases w with rfl | ⟨r, rfl, hr⟩
    · exact ⟨_, Walk.lst, fun _ _ => trivial⟩
    · exact ⟨_, Walk.led, fun H' hs => hs.subset hr⟩
  obtain ⟨S, W, hS⟩ := hS
  refine TSs.cons ?_
  refine TS.for_ hC.calm ?_
  repeat (walk_at "pl e")
  refine ⟨_, S, W, fun i σ => ∃ (aI : Addr) (ds : List (List Nat)) (cur : List Nat), splitS 47 (l.take i) = ds ++ [cur] ∧ H.Sublist σ.H ∧ Le ⟨[("row", v), ("pieces", .ref aP)], (aI, .list (iV cur)) :: (aP, .list (lV ds ++ [.ref aI])) :: H⟩ σ,
    ⟨aI, [], [], rfl, .cons _ (.cons _ (List.Sublist.refl _)), by walk_at "pl lo", List.Sublist.refl _⟩, fun i σ ⟨_, _, _, _, hs, _⟩ => hS _ hs, ?_, ?_⟩
  · rintro i u σ hu ⟨aI, ds, cur, hsp, _, hle⟩
    rw [List.getElem?_map] at hu
    obtain ⟨c, hci, rfl⟩ : ∃ c, l[i]? = some c ∧ u = .int (c : Int) := by
      cases e : l[i]? with
      | none => rw [e] at hu; cases hu
      | some c => rw [e] at hu; cases hu; exact ⟨c, rfl, rfl⟩
    have nx : splitS 47 (l.take (i + 1)) = if c = 47 then splitS 47 (l.take i) ++ [[]] else bump (splitS 47 (l.take i)) c := by
      rw [List.take_add_one, hci]; exact splitS_snoc 47 c (l.take i)
    have hpl := splitS_length 47 (l.take i)
    have hcl : cur.length ≤ (l.take i).length := splitS_part_length (c := 47) (l := l.take i) (p := cur) (by rw [hsp]; simp)
    have htl : (l.take i).length ≤ l.length := List.length_take_le' i l
    rw [hsp, List.length_append, List.length_singleton] at hpl
    rw [hsp] at nx
    have e1 : (lV ds).length = ds.length := List.length_map ..
    have e2 : (iV cur).length = cur.length := List.length_map ..
    refine TAs.name (by walk_at "pl st") ?_
    refine TSs.le hle.both ?_
    clear hle
    refine TSs.cons ?_
    repeat (walk_at "pl e")
    refine ite_b (fun c1 => ?_) (fun c1 => ?_)
    · have c1 : c = 47 := by have : (c : Int) = 47 := by simpa using c1
                             omega
      rw [if_pos c1] at nx
      refine TSs.freezeIn ?_
      refine TSs.cons ?_
      refine TS.expr ?_
      refine TE.appendM ?_
      repeat (walk_at "pl e")
      refine ⟨aP, _, rfl, List.mem_cons_self, ?_⟩
      refine TArgs.cons (TE.listM (TArgs.nil ⟨by simp, fun aN => ?_⟩)) rfl
      refine TArgs.nil ?_
      refine ⟨_, lV ds ++ [.lst (iV cur)], _, rfl, .tail .head, by simp; omega, ?_⟩
      repeat (walk_at "pl e")
      refine ⟨aN, ds ++ [cur], [], nx, .cons _ (.cons _ (List.Sublist.refl _)), by walk_at "pl lo", ?_⟩
      show List.Sublist ((aN, AO.list []) :: (aP, AO.list (lV (ds ++ [cur]) ++ [.ref aN])) :: H) _
      rw [show lV (ds ++ [cur]) = lV ds ++ [.lst (iV cur)] from List.map_append]
      exact List.Sublist.refl _
    · have c1 : ¬ c = 47 := by rintro rfl; exact c1 rfl
      rw [if_neg c1, bump_snoc] at nx
      refine TSs.cons ?_
      refine TS.expr ?_
      refine TE.appendM ?_
      repeat (walk_at "pl e")
      refine Item.listZ (k := ds.length) (u := .ref aI) (.mt (List.mem_cons_of_mem _ List.mem_cons_self)) (by simp; omega) (by simp) (by rw [List.getElem?_append_right (by simp)]; simp) ?_
      refine ⟨aI, _, rfl, List.mem_cons_self, ?_⟩
      repeat (walk_at "pl e")
      refine ⟨_, iV cur, _, rfl, .head, by omega, ?_⟩
      repeat (walk_at "pl e")
      refine ⟨aI, ds, cur ++ [c], nx, .cons _ (.cons _ (List.Sublist.refl _)), by walk_at "pl lo", ?_⟩
      show List.Sublist ((aI, AO.list (iV (cur ++ [c]))) :: (aP, AO.list (lV ds ++ [.ref aI])) :: H) _
      rw [show iV (cur ++ [c]) = iV cur ++ [.int (c : Int)] from List.map_append]
      exact List.Sublist.refl _
  · rintro σ ⟨aI, ds, cur, hsp, _, hle⟩
    refine TSs.nil ?_
    refine TSs.le hle ?_
    rw [List.length_map, List.take_of_length_le (Nat.le_refl _)] at hsp
    refine TSs.freezeIn ?_
    refine TSs.cons ?_
    refine TS.ret ?_
    refine TE.freeze ?_
    repeat (walk_at "pl e")
    refine ⟨aP, _, _, rfl, .head, ?_⟩
    show Q (.lst (lV ds ++ [.lst (iV cur)])) H
    rw [hsp] at h
    rw [show lV ds ++ [.lst (iV cur)] = lV (ds ++ [cur]) from (lV_snoc ds cur).symm]
    exact h
end PL


end
section
open PySem PySem.Calls PyProof.Rows
set_option Elab.async false
set_option linter.unusedVariables false
set_option linter.unusedSimpArgs false
set_option maxRecDepth 100000
set_option maxHeartbeats 4000000

namespace PL
/-- the number that a script's number tells -/
noncomputable def codeX (x : Int) : Nat :=
  if x.fmod 4 = 0 then 47
  else if x.fmod 4 = 1 then [46, 92, 8260, 8725, 65295, 303, 97, 0].getD ((x.fdiv 4).fmod 8).toNat 0
  else if x.fmod 4 = 2 then ((x.fdiv 4).fmod 256).toNat
  else if (x.fdiv 4).fmod 1112064 < 55296 then ((x.fdiv 4).fmod 1112064).toNat else ((x.fdiv 4).fmod 1112064 + 2048).toNat
theorem fmod_range (x : Int) {n : Int} (h : 0 < n) : 0 ≤ x.fmod n ∧ x.fmod n < n := ⟨Int.fmod_nonneg_of_pos x h, Int.fmod_lt_of_pos x h⟩
theorem codeX_lt (x : Int) : codeX x ≤ 1114111 := by
  unfold codeX
  split
  · omega
  split
  · have h := fmod_range (x.fdiv 4) (n := 8) (by decide)
    generalize ((x.fdiv 4).fmod 8) = k at h
    obtain ⟨m, rfl⟩ : ∃ m : Nat, k = m := ⟨k.toNat, by omega⟩
    have hm : m < 8 := by omega
    rw [Int.toNat_natCast]
    have : ∀ m, m < 8 → ([46, 92, 8260, 8725, 65295, 303, 97, 0] : List Nat).getD m 0 ≤ 1114111 := by decide
    exact this m hm
  split
  · have h := fmod_range (x.fdiv 4) (n := 256) (by decide)
    omega
  · have h := fmod_range (x.fdiv 4) (n := 1112064) (by decide)
    split <;> omega
theorem TSsS.weaken {C : Cx} {X : XP} {sts : List Stmt} {Q : Fl → St → Prop} {σ σ' : St} (k : Le σ' σ) (h : TSsS C sts Q X σ') : TSsS C sts Q X σ := fun z₀ zs z s hz hR => h z₀ zs z s hz (hR.weaken k.loc k.led)
/-- a number of the script is read -/
theorem turn_ok {C : Cx} {g : Gd} {n : Nat} (hC : In C g n (scAt P1 4)) (hro : C.ro = []) (hb : Free g BI) {aR : Addr} {x : Int} {r : List Nat} (hr : r.length ≤ 1000) {V0 : V} {Q : Fl → St → Prop}
    {target iter : Expr} {body orelse : List Stmt} {pos : Pos} (hst : (bodyAt P1 4)[1]? = some (.For target iter body orelse pos))
    (h : ∀ σ, Le ⟨[("script", V0), ("row", .ref aR)], [(aR, .list (iV (r ++ [codeX x])))]⟩ σ → Q .next σ) :
    TSs C body Q X0 ⟨[("script", V0), ("row", .ref aR), ("x", .int x)], [(aR, .list (iV r))]⟩ := by
  have hst' : (bodyAt P1 4)[1]? = _ := rfl
  have e := hst.symm.trans hst'
  clear hst
  injection e with e
  injection e with e1 e2 e3 e4 e5
  subst e3
  clear hst' e1 e2 e4 e5
  have e2 : (iV r).length = r.length := List.length_map ..
  refine TSs.cons ?_
  refine TS.assignTo ?_ (hs := by rfl) (hw := by rfl)
  repeat (walk_at "pl e")
  refine call_divmod (by decide) (PyProof.noPylong_of_log2 (by decide +kernel)) ?_
  refine TAs.tuple hC.calm rfl ?_
  refine TIn.cons (TAs.name (by walk_at "pl st") ?_)
  refine TIn.cons (TAs.name (by walk_at "pl st") ?_)
  refine TIn.nil ?_
  generalize hq : x.fdiv 4 = q
  generalize hk : x.fmod 4 = k
  have hk4 := fmod_range x (n := 4) (by decide)
  rw [hk] at hk4
  refine TSs.le (σ' := ⟨[("script", V0), ("row", .ref aR), ("rest", .int q), ("kind", .int k)], [(aR, .list (iV r))]⟩) ⟨by walk_at "pl lo", List.Sublist.refl _⟩ ?_
  unfold codeX at h
  rw [hq, hk] at h
  clear hq hk
  have app : ∀ c : Nat, iV (r ++ [c]) = iV r ++ [.int (c : Int)] := fun c => List.map_append
  obtain rfl | rfl | rfl | rfl : k = 0 ∨ k = 1 ∨ k = 2 ∨ k = 3 := by omega
  · rw [if_pos rfl, app] at h
    refine TSs.cons ?_
    repeat (walk_at "pl e")
    refine ite_t rfl ?_
    refine TSs.cons ?_
    refine TS.expr ?_
    refine TE.appendM ?_
    repeat (walk_at "pl e")
    refine ⟨aR, _, rfl, List.mem_cons_self, ?_⟩
    repeat (walk_at "pl e")
    refine ⟨_, iV r, _, rfl, .head, by omega, ?_⟩
    repeat (walk_at "pl e")
    refine ite_f (by decide) ?_
    repeat (walk_at "pl e")
    refine ite_f (by decide) ?_
    repeat (walk_at "pl e")
    refine ite_f (by decide) ?_
    repeat (walk_at "pl e")
    exact h _ ⟨by walk_at "pl lo", List.Sublist.refl _⟩
  · rw [if_neg (by decide), if_pos rfl, app] at h
    have h8 := fmod_range q (n := 8) (by decide)
    refine TSs.cons ?_
    repeat (walk_at "pl e")
    refine ite_f (by decide) ?_
    repeat (walk_at "pl e")
    refine ite_t rfl ?_
    refine TSs.cons ?_
    refine TS.expr ?_
    refine TE.appendM ?_
    repeat (walk_at "pl e")
    refine ⟨aR, _, rfl, List.mem_cons_self, ?_⟩
    repeat (walk_at "pl e")
    refine ⟨by simp, ?_⟩
    repeat (walk_at "pl e")
    refine Bin.mod_int (by decide) ?_
    generalize q.fmod 8 = m at h8 h
    obtain ⟨m, rfl⟩ : ∃ j : Nat, m = j := ⟨m.toNat, by omega⟩
    have hm : m < 8 := by omega
    rw [Int.toNat_natCast] at h
    refine Item.tupN (u := .int ((([46, 92, 8260, 8725, 65295, 303, 97, 0] : List Nat).getD m 0 : Nat) : Int)) (by simp) ?_ ?_
    · have : ∀ m, m < 8 → ([V.int 46, .int 92, .int 8260, .int 8725, .int 65295, .int 303, .int 97, .int 0] : List V)[m]? = some (.int ((([46, 92, 8260, 8725, 65295, 303, 97, 0] : List Nat).getD m 0 : Nat) : Int)) := by
        intro m hm
        match m, hm with
        | 0, _ => rfl
        | 1, _ => rfl
        | 2, _ => rfl
        | 3, _ => rfl
        | 4, _ => rfl
        | 5, _ => rfl
        | 6, _ => rfl
        | 7, _ => rfl
      exact this m hm
    repeat (walk_at "pl e")
    refine ⟨_, iV r, _, rfl, .head, by omega, ?_⟩
    repeat (walk_at "pl e")
    refine ite_f (by decide) ?_
    repeat (walk_at "pl e")
    refine ite_f (by decide) ?_
    repeat (walk_at "pl e")
    exact h _ ⟨by walk_at "pl lo", List.Sublist.refl _⟩
  · rw [if_neg (by decide), if_neg (by decide), if_pos rfl, app] at h
    have h8 := fmod_range q (n := 256) (by decide)
    refine TSs.cons ?_
    repeat (walk_at "pl e")
    refine ite_f (by decide) ?_
    repeat (walk_at "pl e")
    refine ite_f (by decide) ?_
    repeat (walk_at "pl e")
    refine ite_t rfl ?_
    refine TSs.cons ?_
    refine TS.expr ?_
    refine TE.appendM ?_
    repeat (walk_at "pl e")
    refine ⟨aR, _, rfl, List.mem_cons_self, ?_⟩
    repeat (walk_at "pl e")
    refine Bin.mod_int (by decide) ?_
    generalize q.fmod 256 = m at h8 h
    obtain ⟨m, rfl⟩ : ∃ j : Nat, m = j := ⟨m.toNat, by omega⟩
    rw [Int.toNat_natCast] at h
    repeat (walk_at "pl e")
    refine ⟨_, iV r, _, rfl, .head, by omega, ?_⟩
    repeat (walk_at "pl e")
    refine ite_f (by decide) ?_
    repeat (walk_at "pl e")
    exact h _ ⟨by walk_at "pl lo", List.Sublist.refl _⟩
  · rw [if_neg (by decide), if_neg (by decide), if_neg (by decide), app] at h
    have h8 := fmod_range q (n := 1112064) (by decide)
    refine TSs.cons ?_
    repeat (walk_at "pl e")
    refine ite_f (by decide) ?_
    repeat (walk_at "pl e")
    refine ite_f (by decide) ?_
    repeat (walk_at "pl e")
    refine ite_f (by decide) ?_
    repeat (walk_at "pl e")
    refine ite_t rfl ?_
    refine TSs.cons ?_
    refine TS.assign (by walk_at "pl st") ?_
    repeat (walk_at "pl e")
    refine Bin.mod_int (by decide) ?_
    generalize q.fmod 1112064 = m at h8 h
    repeat (walk_at "pl e")
    refine TE.appendM ?_
    repeat (walk_at "pl e")
    refine ⟨aR, _, rfl, List.mem_cons_self, ?_⟩
    repeat (walk_at "pl e")
    refine ite_b (fun c1 => ?_) (fun c1 => ?_)
    · have c1 : m < 55296 := by simpa using c1
      rw [if_pos c1, Int.toNat_of_nonneg h8.1] at h
      repeat (walk_at "pl e")
      refine ⟨_, iV r, _, rfl, .head, by omega, ?_⟩
      repeat (walk_at "pl e")
      exact h _ ⟨by walk_at "pl lo", List.Sublist.refl _⟩
    · have c1 : ¬ m < 55296 := by simpa using c1
      rw [if_neg c1, Int.toNat_of_nonneg (by omega)] at h
      repeat (walk_at "pl e")
      refine ⟨_, iV r, _, rfl, .head, by omega, ?_⟩
      repeat (walk_at "pl e")
      exact h _ ⟨by walk_at "pl lo", List.Sublist.refl _⟩
end PL


end
section
open PySem PySem.Calls PyProof.Rows
set_option Elab.async false
set_option linter.unusedVariables false
set_option linter.unusedSimpArgs false
set_option maxRecDepth 100000
set_option maxHeartbeats 4000000

namespace PL
theorem joinS_snoc1 : ∀ (cs : List (List Nat)) (n : List Nat), cs ≠ [] → joinS [47] (cs ++ [n]) = joinS [47] cs ++ [47] ++ n
  | [], _, h => absurd rfl h
  | [c], n, _ => rfl
  | c :: d :: r, n, _ => by
    have ih := joinS_snoc1 (d :: r) n (by simp)
    show c ++ [47] ++ joinS [47] ((d :: r) ++ [n]) = c ++ [47] ++ joinS [47] (d :: r) ++ [47] ++ n
    rw [ih]
    simp only [List.append_assoc]
theorem joinS_take {ps : List (List Nat)} {i : Nat} {p : List Nat} (h : ps[i + 1]? = some p) : joinS [47] (ps.take (i + 1 + 1)) = joinS [47] (ps.take (i + 1)) ++ [47] ++ p := by
  rw [List.take_add_one (i := i + 1), h]
  exact joinS_snoc1 _ _ (by
    obtain ⟨hl, _⟩ := List.getElem?_eq_some_iff.mp h
    intro e
    have := congrArg List.length e
    rw [List.length_take] at this
    simp only [List.length_nil] at this
    omega)
theorem take_all_len {ps : List (List Nat)} (i : Nat) : (joinS [47] (ps.take i)).length ≤ (joinS [47] ps).length := by
  rw [joinS_length, joinS_length]
  have h1 : ((ps.take i).map List.length).sum ≤ (ps.map List.length).sum := by
    conv => rhs; rw [← List.take_append_drop i ps]
    rw [List.map_append, List.sum_append]
    omega
  have h2 : (ps.take i).length ≤ ps.length := List.length_take_le' i ps
  simp only [List.length_singleton]
  omega
theorem plain_iV (l : List Nat) : plainVs (iV l) = true := plainVs_all fun v hv => by obtain ⟨p, _, rfl⟩ := List.mem_map.mp hv; rfl
theorem plain_lV (ps : List (List Nat)) : plainVs (lV ps) = true := plainVs_all fun v hv => by
  obtain ⟨p, _, rfl⟩ := List.mem_map.mp hv
  exact plain_iV p
theorem deep_iV (l : List Nat) : deepVs (iV l) ≤ 0 := deepVs_le fun v hv => by obtain ⟨p, _, rfl⟩ := List.mem_map.mp hv; exact Nat.le_refl _
theorem deep_lV (ps : List (List Nat)) : deepVs (lV ps) ≤ 1 := deepVs_le fun v hv => by
  obtain ⟨p, _, rfl⟩ := List.mem_map.mp hv
  have := deep_iV p
  show deepVs (iV p) + 1 ≤ 1
  omega
theorem mod_nat (c : Nat) : (c : Int).fmod 256 = ((c % 256 : Nat) : Int) := by
  rw [Int.fmod_eq_emod_of_nonneg _ (by decide)]
  rfl
/-- what the tree of the law does -/
theorem law1_ok {g : Gd} {a b c : Addr} (hf : Fn g P1 4 a) (h1 : Fn g P1 1 b) (h3 : Fn g P1 3 c) (hb : Free g BI) {script : List Int} (hlen : script.length ≤ 63) :
    CallS g 100 (.ref a) [.lst (script.map .int)] (fun v _ => v = .bool true) (fun _ _ => False) [] := by
  obtain ⟨hm, fd, F⟩ := hf
  refine CallS.def_ (n := 99) F (by rw [pars1_4]; rfl) fun C hC hro => ?_
  rw [pars1_4]
  refine TSsS.weaken start1 ?_
  refine TSsS.cons1 ?_
  refine TS.assign (by walk_at "pl st") ?_
  refine TE.listM (TArgs.nil ⟨by simp, fun aR => ?_⟩)
  refine TSsS.weaken (σ' := ⟨[("script", .lst (script.map .int)), ("row", .ref aR)], [(aR, .list [])]⟩) ⟨by walk_at "pl lo", List.Sublist.refl _⟩ ?_
  refine TSsS.cons1 ?_
  refine TS.for_ hC.calm ?_
  refine TE.binop ?_
  refine TE.listF ?_
  repeat (walk_at "pl e")
  refine ⟨by simp, ?_⟩
  repeat (walk_at "pl e")
  refine Bin.add_list (.fz _) (.fz _) (by simp; omega) ?_
  generalize hxs : (94 : Int) :: 0 :: 143 :: script = xs
  have hxl : xs.length ≤ 66 := by rw [← hxs]; simp; omega
  have exs : [V.int 94, V.int 0, V.int 143] ++ script.map .int = xs.map .int := by rw [← hxs]; rfl
  rw [exs]
  refine ⟨_, _, Walk.lst, fun i σ => Le ⟨[("script", .lst (script.map .int)), ("row", .ref aR)], [(aR, .list (iV ((xs.take i).map codeX)))]⟩ σ, ⟨by walk_at "pl lo", List.Sublist.refl _⟩, fun _ _ _ => trivial, ?_, ?_⟩
  · intro i u σ hu hle
    rw [List.getElem?_map] at hu
    obtain ⟨x, hx, rfl⟩ : ∃ x, xs[i]? = some x ∧ u = .int x := by
      cases e : xs[i]? with
      | none => rw [e] at hu; cases hu
      | some c => rw [e] at hu; cases hu; exact ⟨c, rfl, rfl⟩
    refine TAs.name (by walk_at "pl st") ?_
    refine TSs.le hle.both ?_
    refine turn_ok hC hro hb (r := (xs.take i).map codeX) (by rw [List.length_map]; have := List.length_take_le' i xs; omega) rfl fun σ' hle' => ?_
    have nx : (xs.take (i + 1)).map codeX = (xs.take i).map codeX ++ [codeX x] := by rw [List.take_add_one, hx, Option.toList_some, List.map_append]; rfl
    show Le _ σ'
    rw [nx]
    exact hle'
  intro σ hle
  refine TSs.nil ?_
  show TSsS _ _ _ _ _
  refine TSsS.weaken hle ?_
  rw [List.length_map, List.take_of_length_le (Nat.le_refl _)]
  clear hle σ exs
  have hr66 : (xs.map codeX).length ≤ 66 := by rw [List.length_map]; exact hxl
  have hrc : ∀ c ∈ xs.map codeX, c ≤ 1114111 := fun c hc => by obtain ⟨x, _, rfl⟩ := List.mem_map.mp hc; exact codeX_lt x
  generalize xs.map codeX = r at hr66 hrc
  clear hxs hxl xs
  have e2 : (iV r).length = r.length := List.length_map ..
  generalize hlow : r.map (fun c => c % 256) = low
  have hl66 : low.length ≤ 66 := by rw [← hlow, List.length_map]; exact hr66
  have hlc : ∀ c ∈ low, c < 256 := fun c hc => by rw [← hlow] at hc; obtain ⟨x, _, rfl⟩ := List.mem_map.mp hc; exact Nat.mod_lt _ (by decide)
  refine TSsS.cons1 ?_
  refine TS.assignComp hC (by walk_at "pl comp") (by kernel_rfl) (by kernel_rfl) (by kernel_rfl) ?_
  repeat (walk_at "pl e")
  refine ⟨Nat, r, fun c => .int (c : Int), fun c => some (.int ((c % 256 : Nat) : Int)), [], [(aR, .list (iV r))], _, Walk.led, fun H' hs => hs.subset List.mem_cons_self, List.Sublist.refl _, by walk_at "pl lf", by omega, ?_, .inl ?_⟩
  · intro C' hC' c hc
    refine TAs.name (hC'.stL (by kernel_rfl)) ?_
    refine TIfs.nil ?_
    refine ite_t rfl ?_
    repeat (walk_at "pl e")
    refine Bin.mod_int (by decide) ?_
    exact ⟨by rw [mod_nat], by walk_at "pl lo", List.Sublist.refl _⟩
  rw [filterMap_some]
  have elow : (r.map fun c => V.int ((c % 256 : Nat) : Int)) = iV low := by rw [← hlow, iV, List.map_map]; rfl
  rw [elow]
  show TSsS _ _ _ _ _
  refine TSsS.cons1 ?_
  refine TS.assign (by walk_at "pl st") ?_
  refine TE.joinS ?_
  repeat (walk_at "pl e")
  refine TE.listcompF hC (by walk_at "pl comp") ?_
  repeat (walk_at "pl e")
  refine ⟨Nat, r, fun c => .int (c : Int), fun c => some (.txt false [c]), [], [(aR, .list (iV r))], _, Walk.led, fun H' hs => hs.subset List.mem_cons_self, List.Sublist.refl _, by walk_at "pl lf", by omega, ?_, ?_⟩
  · intro C' hC' c hc
    refine TAs.name (hC'.stL (by kernel_rfl)) ?_
    refine TIfs.nil ?_
    refine ite_t rfl ?_
    repeat (walk_at "pl e")
    have := hrc c hc
    refine call_chr (by omega) (by omega) ?_
    exact ⟨by rw [Int.toNat_natCast], by walk_at "pl lo", List.Sublist.refl _⟩
  rw [filterMap_some]
  have etx : (r.map fun c => V.txt false [c]) = (r.map fun c => [c]).map (V.txt false) := by rw [List.map_map]; rfl
  rw [etx]
  repeat (walk_at "pl e")
  refine ⟨_, r.map fun c => [c], rfl, .fz _, ?_, ?_⟩
  · rw [sum_ones]; simp; omega
  rw [joinS_nil]
  show TSsS _ _ _ _ _
  refine TSsS.cons1 ?_
  refine TS.assign (by walk_at "pl st") ?_
  repeat (walk_at "pl e")
  refine call_bytes hC.calm (ns := low) (.fz _) hlc (by omega) ?_
  show TSsS _ _ _ _ _
  refine TSsS.weaken (σ' := ⟨[("row", .ref aR), ("low", .lst (iV low)), ("text", .txt false r), ("octets", .txt true low)], [(aR, .list (iV r))]⟩) ⟨by walk_at "pl lo", List.Sublist.refl _⟩ ?_
  clear elow etx
  have hjr : joinS [47] (splitS 47 r) = r := joinS_splitS 47 r
  have hjl : joinS [47] (splitS 47 low) = low := joinS_splitS 47 low
  have hsr := splitS_length 47 r
  have hsl := splitS_length 47 low
  have hpr := fun p hp => splitS_part_length (c := 47) (l := r) (p := p) hp
  have hplow := fun p hp => splitS_part_length (c := 47) (l := low) (p := p) hp
  refine TSsS.cons1 ?_
  refine TS.tryOK ?_
  refine TSs.cons ?_
  refine TS.assign (by walk_at "pl st") ?_
  refine TE.split false ?_
  repeat (walk_at "pl e")
  refine TE.callG hC h1 (by kernel_rfl) (by kernel_rfl) ?_
  repeat (walk_at "pl e")
  refine CallV.fnI hC (sep_txt h1 hb ?_) (by decide)
  repeat (walk_at "pl e")
  refine ⟨by omega, ?_⟩
  refine TSs.cons ?_
  refine TS.assign (by walk_at "pl st") ?_
  refine TE.split true ?_
  repeat (walk_at "pl e")
  refine TE.callG hC h1 (by kernel_rfl) (by kernel_rfl) ?_
  repeat (walk_at "pl e")
  refine CallV.fnI hC (sep_txt h1 hb ?_) (by decide)
  repeat (walk_at "pl e")
  refine ⟨by omega, ?_⟩
  refine TSs.le (σ' := ⟨[("row", .ref aR), ("low", .lst (iV low)), ("text", .txt false r), ("octets", .txt true low), ("pieces", .lst ((splitS 47 r).map (.txt false))), ("parts", .lst ((splitS 47 low).map (.txt true)))], [(aR, .list (iV r))]⟩) ⟨by walk_at "pl lo", List.Sublist.refl _⟩ ?_
  refine TSs.cons ?_
  refine TS.if_ ?_
  refine TB.cmp ?_
  refine TE.listcompF hC (by walk_at "pl comp") ?_
  repeat (walk_at "pl e")
  refine ⟨List Nat, splitS 47 r, fun p => .txt false p, fun p => some (.lst (iV p)), [], [(aR, .list (iV r))], fun _ => True, Walk.lst, fun _ _ => trivial, List.Sublist.refl _, by walk_at "pl lf", by omega, ?_, ?_⟩
  · intro C' hC' p hp
    refine TAs.name (hC'.stL (by kernel_rfl)) ?_
    refine TIfs.nil ?_
    refine ite_t rfl ?_
    have := hpr p hp
    refine TE.listcompF hC' (by walk_at "pl comp") ?_
    repeat (walk_at "pl e")
    refine ⟨Nat, p, fun c => .txt false [c], fun c => some (.int (c : Int)), [], [(aR, .list (iV r))], fun _ => True, Walk.str, fun _ _ => trivial, List.Sublist.refl _, by walk_at "pl lf", by omega, ?_, ?_⟩
    · intro C2 hC2 c hc
      refine TAs.name (hC2.stL (by kernel_rfl)) ?_
      refine TIfs.nil ?_
      refine ite_t rfl ?_
      repeat (walk_at "pl e")
      refine call_ord ?_
      exact ⟨rfl, by walk_at "pl lo", List.Sublist.refl _⟩
    · rw [filterMap_some]
      exact ⟨rfl, by walk_at "pl lo", List.Sublist.refl _⟩
  rw [filterMap_some]
  refine TE.callG hC h3 (by kernel_rfl) (by kernel_rfl) ?_
  repeat (walk_at "pl e")
  refine CallV.fnI hC (pieces_ok h3 hb (l := r) (by omega) (.inr ⟨aR, rfl, List.mem_cons_self⟩) ?_) (by decide)
  refine Cmp.ne_same rfl (plain_lV _) (by have := deep_lV (splitS 47 r); show deepVs (lV (splitS 47 r)) + 1 ≤ 64; omega) ?_
  refine ⟨false, rfl, ?_⟩
  refine ite_f (by decide) ?_
  refine TSs.nil ?_
  refine TSs.cons ?_
  refine TS.if_ ?_
  refine TB.cmp ?_
  refine TE.listcompF hC (by walk_at "pl comp") ?_
  repeat (walk_at "pl e")
  refine ⟨List Nat, splitS 47 low, fun p => .txt true p, fun p => some (.lst (iV p)), [], [(aR, .list (iV r))], fun _ => True, Walk.lst, fun _ _ => trivial, List.Sublist.refl _, by walk_at "pl lf", by omega, ?_, ?_⟩
  · intro C' hC' p hp
    refine TAs.name (hC'.stL (by kernel_rfl)) ?_
    refine TIfs.nil ?_
    refine ite_t rfl ?_
    have := hplow p hp
    refine TE.freeze ?_
    repeat (walk_at "pl e")
    refine call_list_octets hC'.calm (by omega) fun d => ?_
    exact ⟨d, _, _, rfl, .head, rfl, by walk_at "pl lo", List.Sublist.refl _⟩
  rw [filterMap_some]
  refine TE.callG hC h3 (by kernel_rfl) (by kernel_rfl) ?_
  repeat (walk_at "pl e")
  refine CallV.fnI hC (pieces_ok h3 hb (l := low) (by omega) (.inl rfl) ?_) (by decide)
  refine Cmp.ne_same rfl (plain_lV _) (by have := deep_lV (splitS 47 low); show deepVs (lV (splitS 47 low)) + 1 ≤ 64; omega) ?_
  refine ⟨false, rfl, ?_⟩
  refine ite_f (by decide) ?_
  refine TSs.nil ?_
  have hp0r : 0 < (splitS 47 r).length := List.length_pos_iff.mpr (splitS_ne 47 r)
  have hp0l : 0 < (splitS 47 low).length := List.length_pos_iff.mpr (splitS_ne 47 low)
  refine TSs.cons ?_
  refine TS.assign (by walk_at "pl st") ?_
  repeat (walk_at "pl e")
  refine Item.listN (j := 0) (u := .txt false (splitS 47 r)[0]) (.fz _) (by rw [List.length_map]; omega) (by rw [List.getElem?_map, List.getElem?_eq_getElem hp0r]; rfl) ?_
  refine TSs.cons ?_
  refine TS.for_ hC.calm ?_
  repeat (walk_at "pl e")
  refine Slc.list (.fz _) (by rw [List.length_map]; omega) (by decide) ?_
  rw [pick_plain, show sl ((splitS 47 r).map (V.txt false)) (some 1) none = ((splitS 47 r).map (V.txt false)).drop 1 from sl_from _ 1]
  refine ⟨_, _, Walk.lst, fun i σ => i + 1 ≤ (splitS 47 r).length ∧ Le ⟨[("row", .ref aR), ("text", .txt false r), ("octets", .txt true low), ("parts", .lst ((splitS 47 low).map (.txt true))), ("pieces", .lst ((splitS 47 r).map (.txt false))), ("again", .txt false (joinS [47] ((splitS 47 r).take (i + 1))))], [(aR, .list (iV r))]⟩ σ, ⟨by omega, ?_⟩, fun _ _ _ => trivial, ?_, ?_⟩
  · rw [show joinS [47] ((splitS 47 r).take (0 + 1)) = (splitS 47 r)[0] from by rw [List.take_add_one, List.getElem?_eq_getElem hp0r]; rfl]
    exact ⟨by walk_at "pl lo", List.Sublist.refl _⟩
  · rintro i u σ hu ⟨hi, hle⟩
    rw [List.getElem?_drop, List.getElem?_map] at hu
    obtain ⟨p, hp, rfl⟩ : ∃ p, (splitS 47 r)[i + 1]? = some p ∧ u = .txt false p := by
      rw [Nat.add_comm 1 i] at hu
      cases e : (splitS 47 r)[i + 1]? with
      | none => rw [e] at hu; cases hu
      | some c => rw [e] at hu; cases hu; exact ⟨c, rfl, rfl⟩
    have nx := joinS_take hp
    have hb1 := take_all_len (ps := (splitS 47 r)) (i + 1)
    have hb2 := take_all_len (ps := (splitS 47 r)) (i + 1 + 1)
    rw [nx] at hb2
    rw [hjr] at hb1 hb2
    simp only [List.length_append, List.length_singleton] at hb2
    generalize joinS [47] ((splitS 47 r).take (i + 1)) = acc at nx hb1 hb2 hle
    refine TAs.name (by walk_at "pl st") ?_
    refine TSs.le hle.both ?_
    refine TSs.cons ?_
    refine TS.assign (by walk_at "pl st") ?_
    repeat (walk_at "pl e")
    refine TE.callG hC h1 (by kernel_rfl) (by kernel_rfl) ?_
    repeat (walk_at "pl e")
    refine CallV.fnI hC (sep_txt h1 hb ?_) (by decide)
    refine Bin.add_txt (by simp; omega) ?_
    repeat (walk_at "pl e")
    refine Bin.add_txt (by simp; omega) ?_
    refine TSs.nil ?_
    refine ⟨by have := (List.getElem?_eq_some_iff.mp hp).1; omega, ?_⟩
    rw [nx]
    exact ⟨by walk_at "pl lo", List.Sublist.refl _⟩
  rintro σ ⟨_, hle⟩
  refine TSs.nil ?_
  refine TSs.le hle ?_
  clear hle σ
  rw [show (((splitS 47 r).map (V.txt false)).drop 1).length + 1 = (splitS 47 r).length from by simp; omega, List.take_of_length_le (Nat.le_refl _), hjr]
  refine TSs.cons ?_
  refine TS.assign (by walk_at "pl st") ?_
  repeat (walk_at "pl e")
  refine Item.listN (j := 0) (u := .txt true (splitS 47 low)[0]) (.fz _) (by rw [List.length_map]; omega) (by rw [List.getElem?_map, List.getElem?_eq_getElem hp0l]; rfl) ?_
  refine TSs.cons ?_
  refine TS.for_ hC.calm ?_
  repeat (walk_at "pl e")
  refine Slc.list (.fz _) (by rw [List.length_map]; omega) (by decide) ?_
  rw [pick_plain, show sl ((splitS 47 low).map (V.txt true)) (some 1) none = ((splitS 47 low).map (V.txt true)).drop 1 from sl_from _ 1]
  refine ⟨_, _, Walk.lst, fun i σ => i + 1 ≤ (splitS 47 low).length ∧ Le ⟨[("row", .ref aR), ("text", .txt false r), ("octets", .txt true low), ("again", .txt false r), ("parts", .lst ((splitS 47 low).map (.txt true))), ("anew", .txt true (joinS [47] ((splitS 47 low).take (i + 1))))], [(aR, .list (iV r))]⟩ σ, ⟨by omega, ?_⟩, fun _ _ _ => trivial, ?_, ?_⟩
  · rw [show joinS [47] ((splitS 47 low).take (0 + 1)) = (splitS 47 low)[0] from by rw [List.take_add_one, List.getElem?_eq_getElem hp0l]; rfl]
    exact ⟨by walk_at "pl lo", List.Sublist.refl _⟩
  · rintro i u σ hu ⟨hi, hle⟩
    rw [List.getElem?_drop, List.getElem?_map] at hu
    obtain ⟨p, hp, rfl⟩ : ∃ p, (splitS 47 low)[i + 1]? = some p ∧ u = .txt true p := by
      rw [Nat.add_comm 1 i] at hu
      cases e : (splitS 47 low)[i + 1]? with
      | none => rw [e] at hu; cases hu
      | some c => rw [e] at hu; cases hu; exact ⟨c, rfl, rfl⟩
    have nx := joinS_take hp
    have hb1 := take_all_len (ps := (splitS 47 low)) (i + 1)
    have hb2 := take_all_len (ps := (splitS 47 low)) (i + 1 + 1)
    rw [nx] at hb2
    rw [hjl] at hb1 hb2
    simp only [List.length_append, List.length_singleton] at hb2
    generalize joinS [47] ((splitS 47 low).take (i + 1)) = acc at nx hb1 hb2 hle
    refine TAs.name (by walk_at "pl st") ?_
    refine TSs.le hle.both ?_
    refine TSs.cons ?_
    refine TS.assign (by walk_at "pl st") ?_
    repeat (walk_at "pl e")
    refine TE.callG hC h1 (by kernel_rfl) (by kernel_rfl) ?_
    repeat (walk_at "pl e")
    refine CallV.fnI hC (sep_txt h1 hb ?_) (by decide)
    refine Bin.add_txt (by simp; omega) ?_
    repeat (walk_at "pl e")
    refine Bin.add_txt (by simp; omega) ?_
    refine TSs.nil ?_
    refine ⟨by have := (List.getElem?_eq_some_iff.mp hp).1; omega, ?_⟩
    rw [nx]
    exact ⟨by walk_at "pl lo", List.Sublist.refl _⟩
  rintro σ ⟨_, hle⟩
  refine TSs.nil ?_
  refine TSs.le hle ?_
  clear hle σ
  rw [show (((splitS 47 low).map (V.txt true)).drop 1).length + 1 = (splitS 47 low).length from by simp; omega, List.take_of_length_le (Nat.le_refl _), hjl]
  refine TSs.nil ?_
  refine TSs.nil ?_
  show TSsS _ _ _ _ _
  refine TSsS.weaken (σ' := ⟨[("row", .ref aR), ("text", .txt false r), ("octets", .txt true low), ("again", .txt false r), ("anew", .txt true low)], [(aR, .list (iV r))]⟩) ⟨by walk_at "pl lo", List.Sublist.refl _⟩ ?_
  clear hsr hsl hpr hplow hjr hjl hp0r hp0l
  refine TSsS.cons1 ?_
  refine TS.if_ ?_
  repeat (walk_at "pl e")
  refine ite_f (by simp) ?_
  repeat (walk_at "pl e")
  refine ite_f (by simp) ?_
  repeat (walk_at "pl e")
  refine ite_f (by decide) ?_
  refine TSs.nil ?_
  show TSsS _ _ _ _ _
  refine TSsS.cons ?_
  refine TSS.for_ hC.calm ?_
  refine TES.tuple ?_
  refine TArgsS.cons (TES.of ?_) rfl
  repeat (walk_at "pl e")
  refine TArgsS.cons (TES.of ?_) rfl
  repeat (walk_at "pl e")
  refine call_len_list (.mt List.mem_cons_self) (by omega) ?_
  refine TArgsS.cons (TES.of ?_) rfl
  refine TE.cmp ?_
  repeat (walk_at "pl e")
  refine ⟨by simp, ?_⟩
  refine Cmp.eq_list (.mt List.mem_cons_self) (.fz _) (plain_iV r) rfl (by have := deep_iV r; omega) (by decide) ?_
  generalize PyData.eqvAll (toDs (iV r)) (toDs []) = e0
  refine TArgsS.cons (TES.of ?_) rfl
  repeat (walk_at "pl e")
  refine ⟨by simp, ?_⟩
  refine TArgsS.cons (TES.of ?_) rfl
  repeat (walk_at "pl e")
  refine ⟨by simp, ?_⟩
  refine TArgsS.cons ?_ rfl
  refine TES.bytearray ?_
  repeat (walk_at "pl e")
  refine ⟨rfl, ?_⟩
  repeat (walk_at "pl e")
  refine ⟨by omega, ?_⟩
  refine TArgsS.of (TArgs.nil ⟨by simp, ?_⟩)
  generalize (iV r).length = k0
  refine ⟨_, _, Walk.tup, fun i σ => True, trivial, fun _ _ _ => trivial, ?_, ?_⟩
  · intro i u σ hu _
    have hu := List.mem_of_getElem? hu
    have key : ∀ (C : Cx) (X : XP) (L : List (Str × V)) (Q : V → St → Prop), Q (.bool false) ⟨L, σ.H⟩ → CallV C (.builtin "isinstance") [u, .con (.type "bytes")] Q X ⟨L, σ.H⟩ := by
      intro C X L Q q
      simp only [List.mem_cons, List.not_mem_nil, or_false] at hu
      rcases hu with rfl | rfl | rfl | rfl | rfl | rfl
      · exact call_isi_notB .none q
      · exact call_isi_notB (.int _) q
      · exact call_isi_notB (.bool _) q
      · exact call_isi_notB (.lst _ _ (.fz _)) q
      · exact call_isi_notB (.tup _) q
      · exact call_isi_ba q
    refine TAs.name (by walk_at "pl st") ?_
    refine TSs.le (σ' := ⟨[("thing", u)], σ.H⟩) ⟨Lo.cons lk_hit Lo.nil, List.Sublist.refl _⟩ ?_
    refine TSs.cons ?_
    refine TS.assign (by walk_at "pl st") ?_
    refine TE.callG hC h1 (by kernel_rfl) (by kernel_rfl) ?_
    repeat (walk_at "pl e")
    refine CallV.fnI hC (sep_else h1 hb key ?_) (by decide)
    refine TSs.cons ?_
    refine TS.if_ ?_
    repeat (walk_at "pl e")
    refine call_type ?_
    repeat (walk_at "pl e")
    refine Cmp.isNotT ?_
    repeat (walk_at "pl e")
    refine ite_f (by decide) ?_
    repeat (walk_at "pl e")
    refine ite_f (by simp) ?_
    repeat (walk_at "pl e")
    refine ite_f (by decide) ?_
    exact TSs.nil (TSs.nil trivial)
  · intro σ _
    refine TSs.nil ?_
    show TSsS _ _ _ _ _
    refine TSsS.of ?_
    refine TSs.cons ?_
    repeat (walk_at "pl e")
    rfl
end PL


end
open PySem PyProof.Rows
set_option Elab.async false
namespace PL
open PySem.Calls
theorem plain_1 : Plain (recAt P1 1) := by constructor <;> decide +kernel
theorem bind_1 : ∀ (pm code doc : Value) (xs : List Value), xs.length = (parsAt P1 1).length → bindArgs (docDef (recAt P1 1).name (recAt P1 1).params (recAt P1 1).body (recAt P1 1).scope pm code doc) ⟨xs, []⟩ = pure ((parsAt P1 1).zip xs) := by
  intro pm code doc xs h
  have e : (parsAt P1 1).length = 1 := by kernel_rfl
  rw [e] at h
  obtain ⟨x, rfl⟩ := List.length_eq_one_iff.mp h
  kernel_rfl
theorem plain_3 : Plain (recAt P1 3) := by constructor <;> decide +kernel
theorem bind_3 : ∀ (pm code doc : Value) (xs : List Value), xs.length = (parsAt P1 3).length → bindArgs (docDef (recAt P1 3).name (recAt P1 3).params (recAt P1 3).body (recAt P1 3).scope pm code doc) ⟨xs, []⟩ = pure ((parsAt P1 3).zip xs) := by
  intro pm code doc xs h
  have e : (parsAt P1 3).length = 1 := by kernel_rfl
  rw [e] at h
  obtain ⟨x, rfl⟩ := List.length_eq_one_iff.mp h
  kernel_rfl
theorem plain_4 : Plain (recAt P1 4) := by constructor <;> decide +kernel
theorem bind_4 : ∀ (pm code doc : Value) (xs : List Value), xs.length = (parsAt P1 4).length → bindArgs (docDef (recAt P1 4).name (recAt P1 4).params (recAt P1 4).body (recAt P1 4).scope pm code doc) ⟨xs, []⟩ = pure ((parsAt P1 4).zip xs) := by
  intro pm code doc xs h
  have e : (parsAt P1 4).length = 1 := by kernel_rfl
  rw [e] at h
  obtain ⟨x, rfl⟩ := List.length_eq_one_iff.mp h
  kernel_rfl
end PL
namespace PH.hq
theorem tw11150929521589302392 : True := trivial
theorem tw12520401737929337452 : True := trivial
theorem tw12877570463623345166 : True := trivial
theorem tw13036585908756149750 : True := trivial
theorem tw1400062475244666399 : True := trivial
theorem tw15414069025055498724 : True := trivial
theorem tw15463474691346184098 : True := trivial
theorem tw15730727387892390850 : True := trivial
theorem tw16914826790281813670 : True := trivial
theorem tw16972908257823016833 : True := trivial
theorem tw1703103052261782850 : True := trivial
theorem tw17395351843419861428 : True := trivial
theorem tw18085861500409228893 : True := trivial
theorem tw2780909800080800891 : True := trivial
theorem tw3197059551979023325 : True := trivial
theorem tw3417158926098078924 : True := trivial
theorem tw5630863645355625156 : True := trivial
theorem tw5761592407684358458 : True := trivial
theorem tw5999169620813036736 : True := trivial
theorem tw6309839428628855892 : True := trivial
theorem tw6501911468724429420 : True := trivial
theorem tw6510472335752469140 : True := trivial
theorem tw6853207014904513811 : True := trivial
theorem tw7336406665985415779 : True := trivial
theorem tw7664658969575254514 : True := trivial
theorem tw867129881574246878 : True := trivial
theorem tw9132360895280740153 : True := trivial
theorem tw9419302573447888953 : True := trivial
theorem tw9662921561997193212 : True := trivial
end PH.hq
open PySem.W
namespace PH
set_option Elab.async true in
set_option maxRecDepth 100000 in
set_option maxHeartbeats 8000000 in
theorem hq : PySem.Challenge.rw_km0084_01.Holds := by
  w_on; o_law; o_head Hook.none; (case hw => w_witness2)
  w_strict (
    k_fill
    intro w s₀ s₁ mg mb G Y fa o pm cd doc dV kV ho hd hcd hD hmg hg args vals as hpre hlay hrd hwl hlo
    refine Ground.open G ?_
    intro T B D TE TW
    try (refine guard_noD D (by decide +kernel) ?_; clear D)
    have hlawname := hmg
    try (obtain ⟨_, _, he, B0⟩ := based_of_top T rfl hmg ho hd; have he' : cd = _ := he; subst he'; clear he)
    wrow_args hpre hlay hrd hwl hlo
    all_goals (
      w_top on
      have hfree : PL.Free (PL.gdOf PySem.Challenge.rw_km0084_01.row.prog w s₁ T) PL.BI := PL.free_of T (by decide +kernel)
      obtain ⟨a1, h1⟩ := PL.fn_of (g := PL.gdOf PySem.Challenge.rw_km0084_01.row.prog w s₁ T) PL.plain_1 PL.bind_1 (T.fn (PL.recAt PL.P1 1) (List.mem_of_getElem? (i := 0) (by kernel_rfl)))
      obtain ⟨a3, h3⟩ := PL.fn_of (g := PL.gdOf PySem.Challenge.rw_km0084_01.row.prog w s₁ T) PL.plain_3 PL.bind_3 (T.fn (PL.recAt PL.P1 3) (List.mem_of_getElem? (i := 1) (by kernel_rfl)))
      obtain ⟨a4, h4⟩ := PL.fn_of (g := PL.gdOf PySem.Challenge.rw_km0084_01.row.prog w s₁ T) PL.plain_4 PL.bind_4 (T.fn (PL.recAt PL.P1 4) (List.mem_of_getElem? (i := 2) (by kernel_rfl)))
      have hfa : a4 = fa := by
        have e1 := h4.1
        have e2 := hlawname
        have e3 : some (Value.ref a4) = some (Value.ref fa) := e1.symm.trans e2
        cases e3; rfl
      subst hfa
      rename_i hlen63 _
      refine PL.finishS T hg (by assumption) ?_ (raisesW_false ?_) ?_
      · refine PL.law1_ok h4 h1 h3 hfree  ?_
        omega
      · wrow_none_raised
      · wrow_post))
end PH
theorem PySem.Challenge.cw_km0084_01_holds : PySem.Challenge.rw_km0084_01.Holds := by
  exact PH.hq


