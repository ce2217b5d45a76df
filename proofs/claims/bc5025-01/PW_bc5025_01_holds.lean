import PyProof.Rows.All
import Wide.All
import OpenK.AllK
import Wide.FinOn
import PyProof.NeData
import PyProof.P3In
import KE.KIntText
import PyProof.ListCopy
import PyProof.SeqI3
import PyProof.Rows.TupMore
import PyProof.Rows.SeqMore2
import KE.KRevSl
import KE.KSuperObj
import Lean
import PySem.Challenge.RW_bc5025_01

set_option Elab.async false
set_option maxRecDepth 100000
section
open PySem PySem.W PySem.Calls PyProof.Rows
set_option linter.all false
set_option maxRecDepth 100000
namespace Mine

/-- what a def within a def made -/
structure CloF where
  name : Str
  qual : Str
  params : Arguments
  body : List Stmt
  scope : Scope

inductive MVal where
  | none | bool (b : Bool) | int (i : Int) | str (s : Str)
  | tup (vs : List MVal) | lst (vs : List MVal)
  | dct (ks : List Str) (vs : List MVal)
  | ref (i : Nat)
  | obj (v : Value)
  | bm (id : String) (self : MVal)
  | inst (C : Addr) (ks : List Str) (vs : List MVal)
  | rng (a b : Int)
  | insr (C : Addr) (i : Nat)
  | clo (F : CloF) (cs : List (Str × Nat))
  | gen (g : Nat)
  | fo (T : String) (vs : List MVal)

inductive MObj where
  | lst (vs : List MVal)
  | cell (v : Option MVal)
  | dct (ds : List (Str × MVal))

abbrev FH := Addr → Option Obj
abbrev tupO (arr : Array Value) (ep : Nat) : Obj := { cls := .type "tuple", data := .seq arr ep }
abbrev lstO (arr : Array Value) (ep : Nat) : Obj := { cls := .type "list", data := .seq arr ep }

def CRel (ρ : List Addr) : List (Str × Nat) → List (Str × Addr) → Prop
  | [], l => l = []
  | (x, k) :: r, l => ∃ a t, l = (x, a) :: t ∧ ρ[k]? = some a ∧ CRel ρ r t

mutual
def VRel (fz : FH) (ρ : List Addr) : MVal → Value → Prop
  | .none, v => v = .none
  | .bool b, v => v = .bool b
  | .int i, v => ∃ tk, v = .int i tk
  | .str s, v => ∃ tk, v = .str s tk
  | .tup vs, v => ∃ a arr, v = .ref a ∧ fz a = some (tupO arr 0) ∧ VRels fz ρ vs arr.toList
  | .lst vs, v => ∃ a arr ep, v = .ref a ∧ fz a = some (lstO arr ep) ∧ VRels fz ρ vs arr.toList
  | .dct ks vs, v => ∃ a es ep, v = .ref a ∧ fz a = some { cls := .type "dict", data := .dict es ep } ∧ (es.toList.map (·.key)).map (fun k => match k with | .str s _ => s | _ => Str.empty) = ks ∧ (∀ e ∈ es, ∃ s tk, e.key = .str s tk) ∧ VRels fz ρ vs (es.toList.map (·.val))
  | .ref i, v => ∃ a, ρ[i]? = some a ∧ v = .ref a
  | .obj v', v => v = v'
  | .bm id self, v => ∃ a x, v = .ref a ∧ fz a = some { cls := .type "builtin_function_or_method", data := .fields #[.builtin id, x] } ∧ VRel fz ρ self x
  | .inst C ks vs, v => ∃ a dx es ep, v = .ref a ∧ fz a = some { cls := .ref C, dict := some dx } ∧ fz dx = some { cls := .type "dict", data := .dict es ep } ∧ (es.toList.map (·.key)).map (fun k => match k with | .str s _ => s | _ => Str.empty) = ks ∧ (∀ e ∈ es, ∃ s tk, e.key = .str s tk) ∧ VRels fz ρ vs (es.toList.map (·.val))
  | .rng a b, v => ∃ r t u w, v = .ref r ∧ fz r = some { cls := .type "range", data := .fields #[.int a t, .int b u, .int 1 w] }
  | .insr C i, v => ∃ a dx, v = .ref a ∧ fz a = some { cls := .ref C, dict := some dx } ∧ ρ[i]? = some dx
  | .clo F cs, v => ∃ a clos doc pm c' ctv oc vs t, v = .ref a ∧ fz a = some (fnMade F.name F.qual F.params F.body F.scope clos doc pm c' ctv) ∧ CRel ρ cs clos ∧ fz c' = some oc ∧ oc.data = .fields vs ∧ vs[1]? = some (.str F.qual t)
  | .gen g, v => ∃ a nm qn, v = .ref a ∧ fz a = some { cls := .type "generator", data := .fields #[.int g 0, nm, qn] }
  | .fo T vs, v => ∃ a arr, v = .ref a ∧ fz a = some { cls := .type T, data := .fields arr } ∧ VRels fz ρ vs arr.toList
def VRels (fz : FH) (ρ : List Addr) : List MVal → List Value → Prop
  | [], l => l = []
  | x :: xs, l => ∃ v r, l = v :: r ∧ VRel fz ρ x v ∧ VRels fz ρ xs r
end

def Grow (fz : FH) (ρ : List Addr) (fz' : FH) (ρ' : List Addr) : Prop := (∀ a o, fz a = some o → fz' a = some o) ∧ ∃ t, ρ' = ρ ++ t
theorem Grow.refl (fz : FH) (ρ : List Addr) : Grow fz ρ fz ρ := ⟨fun _ _ e => e, [], by simp⟩
theorem Grow.trans {fz fz' fz'' : FH} {ρ ρ' ρ'' : List Addr} (x : Grow fz ρ fz' ρ') (y : Grow fz' ρ' fz'' ρ'') : Grow fz ρ fz'' ρ'' := by
  obtain ⟨x1, t, rfl⟩ := x
  obtain ⟨y1, u, rfl⟩ := y
  exact ⟨fun a o e => y1 a o (x1 a o e), t ++ u, by simp⟩
theorem Grow.at {fz fz' : FH} {ρ ρ' : List Addr} (x : Grow fz ρ fz' ρ') {i : Nat} {a : Addr} (h : ρ[i]? = some a) : ρ'[i]? = some a := by
  obtain ⟨_, t, rfl⟩ := x
  rw [List.getElem?_append_left]
  · exact h
  · exact (List.getElem?_eq_some_iff.mp h).1

theorem CRel.grow {fz fz' : FH} {ρ ρ' : List Addr} (g : Grow fz ρ fz' ρ') : ∀ (cs : List (Str × Nat)) (l : List (Str × Addr)), CRel ρ cs l → CRel ρ' cs l
  | [], l, h => h
  | (x, k) :: r, l, ⟨a, t, e, h1, h2⟩ => ⟨a, t, e, g.at h1, CRel.grow g r t h2⟩

mutual
theorem VRel.grow {fz fz' : FH} {ρ ρ' : List Addr} (g : Grow fz ρ fz' ρ') : ∀ (m : MVal) (v : Value), VRel fz ρ m v → VRel fz' ρ' m v
  | .none, v, h => by simpa [VRel] using h
  | .bool b, v, h => by simpa [VRel] using h
  | .int i, v, h => by simpa [VRel] using h
  | .str s, v, h => by simpa [VRel] using h
  | .tup vs, v, h => by
    simp only [VRel] at h ⊢
    obtain ⟨a, arr, rfl, h1, h2⟩ := h
    exact ⟨a, arr, rfl, g.1 _ _ h1, VRels.grow g vs _ h2⟩
  | .lst vs, v, h => by
    simp only [VRel] at h ⊢
    obtain ⟨a, arr, ep, rfl, h1, h2⟩ := h
    exact ⟨a, arr, ep, rfl, g.1 _ _ h1, VRels.grow g vs _ h2⟩
  | .dct ks vs, v, h => by
    simp only [VRel] at h ⊢
    obtain ⟨a, es, ep, rfl, h1, h2, h3, h4⟩ := h
    exact ⟨a, es, ep, rfl, g.1 _ _ h1, h2, h3, VRels.grow g vs _ h4⟩
  | .ref i, v, h => by
    simp only [VRel] at h ⊢
    obtain ⟨a, h1, rfl⟩ := h
    exact ⟨a, g.at h1, rfl⟩
  | .obj v', v, h => by simpa [VRel] using h
  | .bm id self, v, h => by
    simp only [VRel] at h ⊢
    obtain ⟨a, x, rfl, h1, h2⟩ := h
    exact ⟨a, x, rfl, g.1 _ _ h1, VRel.grow g self _ h2⟩
  | .inst C ks vs, v, h => by
    simp only [VRel] at h ⊢
    obtain ⟨a, dx, es, ep, rfl, h1, h2, h3, h4, h5⟩ := h
    exact ⟨a, dx, es, ep, rfl, g.1 _ _ h1, g.1 _ _ h2, h3, h4, VRels.grow g vs _ h5⟩
  | .rng a b, v, h => by
    simp only [VRel] at h ⊢
    obtain ⟨r, t, u, w, rfl, h1⟩ := h
    exact ⟨r, t, u, w, rfl, g.1 _ _ h1⟩
  | .insr C i, v, h => by
    simp only [VRel] at h ⊢
    obtain ⟨a, dx, rfl, h1, h2⟩ := h
    exact ⟨a, dx, rfl, g.1 _ _ h1, g.at h2⟩
  | .clo F cs, v, h => by
    simp only [VRel] at h ⊢
    obtain ⟨a, clos, doc, pm, c', ctv, oc, vs, t, rfl, h1, h2, h3, h4, h5⟩ := h
    exact ⟨a, clos, doc, pm, c', ctv, oc, vs, t, rfl, g.1 _ _ h1, CRel.grow g _ _ h2, g.1 _ _ h3, h4, h5⟩
  | .gen k, v, h => by
    simp only [VRel] at h ⊢
    obtain ⟨a, nm, qn, rfl, h1⟩ := h
    exact ⟨a, nm, qn, rfl, g.1 _ _ h1⟩
  | .fo T vs, v, h => by
    simp only [VRel] at h ⊢
    obtain ⟨a, arr, rfl, h1, h2⟩ := h
    exact ⟨a, arr, rfl, g.1 _ _ h1, VRels.grow g vs _ h2⟩
theorem VRels.grow {fz fz' : FH} {ρ ρ' : List Addr} (g : Grow fz ρ fz' ρ') : ∀ (ms : List MVal) (vs : List Value), VRels fz ρ ms vs → VRels fz' ρ' ms vs
  | [], vs, h => by simpa [VRels] using h
  | x :: xs, vs, h => by
    simp only [VRels] at h ⊢
    obtain ⟨v, r, rfl, h1, h2⟩ := h
    exact ⟨v, r, rfl, VRel.grow g x _ h1, VRels.grow g xs _ h2⟩
end

end Mine
end
section
open PySem PySem.W PySem.Calls PyProof.Rows
set_option linter.all false
set_option maxRecDepth 100000
namespace Mine

/-- the fixed part: the program, the world, the heap behind the top (its tables hidden) -/
structure SX where
  prog : Program
  w : World
  hb : Heap
  mg : Str → Option Value
  mb : Str → Option Value
  K : Frag
  tabs : List (Addr × Addr)
  /-- the qualified name of the def at a place, by the table -/
  qn : Addr → Nat → Nat → Str
  os : OsState

structure SXOk (X : SX) : Prop where
  g : X.hb.Ns mainGlobals X.mg
  b : X.hb.Ns builtinsNs X.mb
  blt : ∀ x : Str, x ≠ "__name__" → X.mb x = bootBuiltins x
  nolimit : X.hb.NoLimit
  kin : X.K.In X.hb
  hd : ∀ q ∈ X.tabs, CodeHd X.hb q.1 q.2
  bmain : ∃ bm ob, X.mg "__builtins__" = some (.ref bm) ∧ bm ≠ builtinsNs ∧ X.hb.get? bm = some ob ∧ ob.cls = .type "module" ∧ ob.dict = some builtinsNs ∧ ob.data = .plain

structure St where
  loc : List (Str × MVal)
  cells : List (Str × Nat)
  led : List MObj

def DRel (fz : FH) (ρ : List Addr) : List (Str × MVal) → List DictEntry → Prop
  | [], l => l = []
  | (k, v) :: r, l => ∃ h t u es, l = ⟨h, .str k t, u⟩ :: es ∧ VRel fz ρ v u ∧ DRel fz ρ r es
theorem DRel.grow {fz fz' : FH} {ρ ρ' : List Addr} (g : Grow fz ρ fz' ρ') : ∀ (m : List (Str × MVal)) (l : List DictEntry), DRel fz ρ m l → DRel fz' ρ' m l
  | [], _, h => h
  | (k, v) :: r, _, ⟨h, t, u, es, e, h1, h2⟩ => ⟨h, t, u, es, e, VRel.grow g _ _ h1, DRel.grow g r es h2⟩

def ORel (fz : FH) (ρ : List Addr) : MObj → Obj → Prop
  | .lst vs, ob => ∃ arr ep, ob = lstO arr ep ∧ VRels fz ρ vs arr.toList
  | .cell none, ob => ob.data = .cell none
  | .cell (some v), ob => ∃ x, ob.data = .cell (some x) ∧ VRel fz ρ v x
  | .dct ds, ob => ∃ es ep, ob = { cls := .type "dict", data := .dict es ep } ∧ DRel fz ρ ds es.toList
theorem ORel.grow {fz fz' : FH} {ρ ρ' : List Addr} (g : Grow fz ρ fz' ρ') : ∀ (m : MObj) (v : Obj), ORel fz ρ m v → ORel fz' ρ' m v
  | .lst vs, _, ⟨arr, ep, e, h⟩ => ⟨arr, ep, e, VRels.grow g _ _ h⟩
  | .cell none, _, h => h
  | .cell (some v), _, ⟨x, e, h⟩ => ⟨x, e, VRel.grow g _ _ h⟩
  | .dct ds, _, ⟨es, ep, e, h1⟩ => ⟨es, ep, e, DRel.grow g _ _ h1⟩

structure Base (X : SX) (s : Shared) : Prop where
  os : s.os = X.os
  bare : AllBare s.gens

/-- what a code table holds -/
def TabRel (X : SX) (fz : FH) (P : Addr) (ps : Array Value) : Prop :=
  ∀ pos cv, codeAmong pos ps.toList = some cv → ∃ c' oc vs t, cv = .ref c' ∧ fz c' = some oc ∧ oc.data = .fields vs ∧ vs[1]? = some (.str (X.qn P pos.line pos.col) t)
theorem TabRel.grow {X : SX} {fz fz' : FH} {P : Addr} {ps : Array Value} (h : TabRel X fz P ps) (g : ∀ a o, fz a = some o → fz' a = some o) : TabRel X fz' P ps := fun pos cv e =>
  let ⟨c', oc, vs, t, e1, e2, r⟩ := h pos cv e; ⟨c', oc, vs, t, e1, g _ _ e2, r⟩

structure LRel (X : SX) (fz kp : FH) (kg : Nat → Option GenState) (ρ : List Addr) (led : List MObj) (s : Shared) : Prop where
  base : Base X s
  hb : ∀ a o, X.hb.get? a = some o → fz a = some o
  ifz : ∀ a o, fz a = some o → s.heap.get? a = some o
  ikp : ∀ a o, kp a = some o → s.heap.get? a = some o
  ikg : ∀ (i : Nat) (g : GenState), kg i = some g → s.gens[i]? = some g
  len : ρ.length = led.length
  ild : ∀ (i : Nat) (a : Addr) (m : MObj), ρ[i]? = some a → led[i]? = some m → ∃ o, s.heap.get? a = some o ∧ ORel fz ρ m o
  nd : ρ.Nodup
  off : ∀ a ∈ ρ, fz a = none ∧ kp a = none ∧ ∀ q ∈ X.tabs, q.2 ≠ a
  offT : ∀ q ∈ X.tabs, fz q.2 = none ∧ kp q.2 = none
  dis : ∀ (a : Addr) (o : Obj), kp a = some o → fz a = none
  tb : ∀ q ∈ X.tabs, ∃ ps, s.heap.get? q.2 = some (tabObj ps) ∧ TriplesOk ps.toList ∧ TabRel X fz q.2 ps

structure Rel (X : SX) (env : Env) (fz kp : FH) (kg : Nat → Option GenState) (ρ : List Addr) (st : St) (s : Shared) : Prop extends LRel X fz kp kg ρ st.led s where
  iloc : ∃ m, s.heap.Ns env.locals m ∧ ∀ x v, st.loc.lookup x = some v → ∃ u, m x = some u ∧ VRel fz ρ v u
  icell : ∀ (x : Str) (i : Nat), st.cells.lookup x = some i → ∃ a, ρ[i]? = some a ∧ env.cells.lookup x = some a
  offL : fz env.locals = none ∧ kp env.locals = none ∧ env.locals ∉ ρ ∧ ∀ q ∈ X.tabs, q.2 ≠ env.locals

/-- one state knows no more than the other -/
structure Sub (a b : St) : Prop where
  led : a.led = b.led
  cells : a.cells = b.cells
  loc : ∀ x v, a.loc.lookup x = some v → b.loc.lookup x = some v
theorem Rel.sub {X : SX} {env : Env} {fz kp : FH} {kg : Nat → Option GenState} {ρ : List Addr} {a b : St} {s : Shared} (R : Rel X env fz kp kg ρ b s) (h : Sub a b) : Rel X env fz kp kg ρ a s := by
  obtain ⟨la, ca, da⟩ := a
  obtain ⟨h1, h2, h3⟩ := h
  dsimp only at h1 h2 h3
  subst h1 h2
  exact { R with iloc := let ⟨m, hn, hm⟩ := R.iloc; ⟨m, hn, fun x v e => hm x v (h3 x v e)⟩ }

structure EnvOk (env : Env) : Prop where
  k : env.scope.kind = .function
  g : env.globals = mainGlobals
  b : env.builtins = builtinsNs

structure AOk (A : Around) (d : Nat) : Prop where
  h : A.handled = none
  depth : A.depth + d < 1000
  units : A.units + 20 * d + 200 < 9900

theorem AOk.mono {A : Around} {d d' : Nat} (h : AOk A d) (l : d' ≤ d) : AOk A d' := ⟨h.h, by have := h.depth; omega, by have := h.units; omega⟩

section
variable {X : SX} {env : Env} {fz kp : FH} {kg : Nat → Option GenState} {ρ : List Addr} {led : List MObj} {st : St} {s : Shared}

def upd (fz : FH) (a : Addr) (o : Obj) : FH := fun b => if b = a then some o else fz b
theorem upd_self (fz : FH) (a : Addr) (o : Obj) : upd fz a o a = some o := by simp [upd]
theorem upd_ne {fz : FH} {a b : Addr} {o : Obj} (h : b ≠ a) : upd fz a o b = fz b := by simp [upd, h]
theorem grow_upd {fz : FH} {ρ : List Addr} {a : Addr} {o : Obj} (h : fz a = none) : Grow fz ρ (upd fz a o) ρ :=
  ⟨fun b o' e => by
    by_cases hb : b = a
    · subst hb; rw [h] at e; cases e
    · rw [upd_ne hb]; exact e, [], by simp⟩

theorem none_of_size {h : Heap} : h.get? h.objs.size = none := by
  cases q : h.get? h.objs.size with
  | none => rfl
  | some o => exact absurd (Heap.lt_size q) (Nat.lt_irrefl _)

theorem LRel.keep (R : LRel X fz kp kg ρ led s) {h' : Heap} {tk : Nat} (hk : ∀ b o, s.heap.get? b = some o → h'.get? b = some o) :
    LRel X fz kp kg ρ led { s with heap := h', toks := tk } where
  base := ⟨R.base.os, R.base.bare⟩
  tb := fun q hq => let ⟨ps, e, t⟩ := R.tb q hq; ⟨ps, hk _ _ e, t⟩
  hb := R.hb
  ifz := fun a o e => hk _ _ (R.ifz a o e)
  ikp := fun a o e => hk _ _ (R.ikp a o e)
  ikg := R.ikg
  len := R.len
  ild := fun i a m e1 e2 => let ⟨o, e, h⟩ := R.ild i a m e1 e2; ⟨o, hk _ _ e, h⟩
  nd := R.nd
  off := R.off
  offT := R.offT
  dis := R.dis

theorem Rel.keep (R : Rel X env fz kp kg ρ st s) {h' : Heap} {tk : Nat} (hk : ∀ b o, s.heap.get? b = some o → h'.get? b = some o) :
    Rel X env fz kp kg ρ st { s with heap := h', toks := tk } :=
  { R.toLRel.keep hk with
    iloc := let ⟨m, hn, h⟩ := R.iloc; ⟨m, hn.keeps hk, h⟩
    icell := R.icell
    offL := R.offL }

theorem LRel.fz_none (R : LRel X fz kp kg ρ led s) {a : Addr} (h : s.heap.get? a = none) : fz a = none := by
  cases q : fz a with
  | none => rfl
  | some o => rw [R.ifz a o q] at h; cases h
theorem LRel.kp_none (R : LRel X fz kp kg ρ led s) {a : Addr} (h : s.heap.get? a = none) : kp a = none := by
  cases q : kp a with
  | none => rfl
  | some o => rw [R.ikp a o q] at h; cases h
theorem LRel.notin (R : LRel X fz kp kg ρ led s) {a : Addr} (h : s.heap.get? a = none) : a ∉ ρ := fun hm => by
  obtain ⟨i, hi, rfl⟩ := List.getElem_of_mem hm
  have hl : i < led.length := R.len ▸ hi
  obtain ⟨o, e, _⟩ := R.ild i ρ[i] led[i] (List.getElem?_eq_getElem hi) (List.getElem?_eq_getElem hl)
  rw [h] at e; cases e

/-- a new object, frozen at once -/
theorem LRel.new (R : LRel X fz kp kg ρ led s) {h' : Heap} {tk : Nat} {a : Addr} {o : Obj} (hn : s.heap.get? a = none) (hk : ∀ b o, s.heap.get? b = some o → h'.get? b = some o) (ha : h'.get? a = some o) :
    LRel X (upd fz a o) kp kg ρ led { s with heap := h', toks := tk } where
  base := ⟨R.base.os, R.base.bare⟩
  tb := fun q hq => let ⟨ps, e, t⟩ := R.tb q hq; ⟨ps, hk _ _ e, t.1, t.2.grow (grow_upd (ρ := ρ) (R.fz_none hn)).1⟩
  hb := fun b o' e => by rw [upd_ne (fun q => by subst q; rw [R.ifz _ _ (R.hb _ _ e)] at hn; cases hn)]; exact R.hb b o' e
  ifz := fun b o' e => by
    by_cases hb : b = a
    · subst hb; rw [upd_self] at e; cases e; exact ha
    · rw [upd_ne hb] at e; exact hk _ _ (R.ifz b o' e)
  ikp := (R.keep (tk := tk) hk).ikp
  ikg := R.ikg
  len := R.len
  ild := fun i a' m e1 e2 => let ⟨o', e, h⟩ := R.ild i a' m e1 e2; ⟨o', hk _ _ e, ORel.grow (grow_upd (R.fz_none hn)) _ _ h⟩
  nd := R.nd
  off := fun b hb => ⟨by rw [upd_ne (a := a) (b := b) (fun q => by subst q; exact R.notin hn hb)]; exact (R.off b hb).1, (R.off b hb).2⟩
  offT := fun q hq => ⟨by
    rw [upd_ne (fun e => by
      obtain ⟨ps, e', _⟩ := R.tb q hq
      rw [e, hn] at e'; cases e')]
    exact (R.offT q hq).1, (R.offT q hq).2⟩
  dis := fun b o' e => by
    rw [upd_ne (fun q => by subst q; have := R.ikp _ _ e; rw [hn] at this; cases this)]; exact R.dis b o' e

theorem Rel.ns_some (R : Rel X env fz kp kg ρ st s) : ∃ o, s.heap.get? env.locals = some o := let ⟨_, ⟨o, _, _, e, _⟩, _⟩ := R.iloc; ⟨o, e⟩

theorem Rel.new (R : Rel X env fz kp kg ρ st s) {h' : Heap} {tk : Nat} {a : Addr} {o : Obj} (hn : s.heap.get? a = none) (hk : ∀ b o, s.heap.get? b = some o → h'.get? b = some o) (ha : h'.get? a = some o) :
    Rel X env (upd fz a o) kp kg ρ st { s with heap := h', toks := tk } :=
  { R.toLRel.new (tk := tk) hn hk ha with
    iloc := let ⟨m, hns, h⟩ := R.iloc; ⟨m, hns.keeps hk, fun x v e => let ⟨u, e', r⟩ := h x v e; ⟨u, e', VRel.grow (grow_upd (R.fz_none hn)) _ _ r⟩⟩
    icell := R.icell
    offL := ⟨by rw [upd_ne (fun q => by obtain ⟨o, e⟩ := R.ns_some; rw [q, hn] at e; cases e)]; exact R.offL.1, R.offL.2⟩ }

end

def WP {α : Type} (X : SX) (env : Env) (A : Around) (fz kp : FH) (kg : Nat → Option GenState) (ρ : List Addr) (t : Sem α) (st' : St) (P : FH → List Addr → α → Prop) (s : Shared) : Prop :=
  ∀ (Q : α → Shared → Prop) (E : Value → Shared → Prop), (∀ fz' ρ' a s', Rel X env fz' kp kg ρ' st' s' → Grow fz ρ fz' ρ' → P fz' ρ' a → Q a s') → wpAny (model X.prog X.w) A t Q E s

def EvE (X : SX) (env : Env) (d : Nat) (e : Expr) (st : St) (r : MVal) (st' : St) : Prop :=
  ∀ A fz kp kg ρ s, AOk A d → Rel X env fz kp kg ρ st s → WP X env A fz kp kg ρ (eval e env) st' (fun fz ρ v => VRel fz ρ r v) s
def LdE (X : SX) (env : Env) (d : Nat) (x : Str) (st : St) (r : MVal) (st' : St) : Prop :=
  ∀ A fz kp kg ρ s, AOk A d → Rel X env fz kp kg ρ st s → WP X env A fz kp kg ρ (loadName env x) st' (fun fz ρ v => VRel fz ρ r v) s
def TsE (X : SX) (env : Env) (d : Nat) (e : Expr) (st : St) (b : Bool) (st' : St) : Prop :=
  ∀ A fz kp kg ρ s, AOk A d → Rel X env fz kp kg ρ st s → WP X env A fz kp kg ρ (isTrue e env (eval e env)) st' (fun _ _ b' => b' = b) s
def BinE (X : SX) (env : Env) (d : Nat) (op : Operator) (a b : MVal) (st : St) (r : MVal) (st' : St) : Prop :=
  ∀ A fz kp kg ρ s va vb, AOk A d → Rel X env fz kp kg ρ st s → VRel fz ρ a va → VRel fz ρ b vb → WP X env A fz kp kg ρ (binaryOp op va vb) st' (fun fz ρ v => VRel fz ρ r v) s
def CmpE (X : SX) (env : Env) (d : Nat) (op : CmpOp) (a b : MVal) (st : St) (r : Bool) (st' : St) : Prop :=
  ∀ A fz kp kg ρ s va vb, AOk A d → Rel X env fz kp kg ρ st s → VRel fz ρ a va → VRel fz ρ b vb → WP X env A fz kp kg ρ (compareOp op va vb) st' (fun _ _ v => v = .bool r) s
def TruE (X : SX) (env : Env) (d : Nat) (a : MVal) (st : St) (r : Bool) (st' : St) : Prop :=
  ∀ A fz kp kg ρ s va, AOk A d → Rel X env fz kp kg ρ st s → VRel fz ρ a va → WP X env A fz kp kg ρ (truthy va) st' (fun _ _ v => v = r) s
inductive MFlow where
  | next | brk | cont | ret (v : MVal)
def FRel (fz : FH) (ρ : List Addr) : MFlow → Flow → Prop
  | .next, f => f = .next
  | .brk, f => f = .brk
  | .cont, f => f = .cont
  | .ret v, f => ∃ u, f = .ret u ∧ VRel fz ρ v u
def ExS (X : SX) (env : Env) (d : Nat) (t : Stmt) (st : St) (f : MFlow) (st' : St) : Prop :=
  ∀ A fz kp kg ρ s, AOk A d → Rel X env fz kp kg ρ st s → WP X env A fz kp kg ρ (exec t env) st' (fun fz ρ v => FRel fz ρ f v) s
def ExL (X : SX) (env : Env) (d : Nat) (t : List Stmt) (st : St) (f : MFlow) (st' : St) : Prop :=
  ∀ A fz kp kg ρ s, AOk A d → Rel X env fz kp kg ρ st s → WP X env A fz kp kg ρ (execs t env) st' (fun fz ρ v => FRel fz ρ f v) s
def EvL (X : SX) (env : Env) (d : Nat) (pos : Pos) (es : List Expr) (st : St) (rs : List MVal) (st' : St) : Prop :=
  ∀ A fz kp kg ρ s, AOk A d → Rel X env fz kp kg ρ st s → WP X env A fz kp kg ρ (spliced (backTo pos (starEach es env))) st' (fun fz ρ vs => VRels fz ρ rs vs) s

section
variable {X : SX} {env : Env} {d : Nat} {st st' st₁ st₂ : St}

theorem WP.bind {α β : Type} {A : Around} {fz kp : FH} {kg : Nat → Option GenState} {ρ : List Addr} {s : Shared} {t : Sem α} {k : α → Sem β} {P : FH → List Addr → α → Prop} {P' : FH → List Addr → β → Prop}
    (h : WP X env A fz kp kg ρ t st₁ P s) (h' : ∀ fz' ρ' a s', Rel X env fz' kp kg ρ' st₁ s' → Grow fz ρ fz' ρ' → P fz' ρ' a → WP X env A fz' kp kg ρ' (k a) st' P' s') :
    WP X env A fz kp kg ρ (t >>= k) st' P' s := fun Q E q =>
  wpAny_bind (h _ _ fun fz' ρ' a s' R g p => h' fz' ρ' a s' R g p Q E fun fz'' ρ'' b s'' R' g' p' => q _ _ _ _ R' (g.trans g') p')

theorem EvE.cnone {k pos} : EvE X env d (.Constant .none k pos) st .none st := fun _ fz _ _ ρ s _ R Q _ q => wpAny_Constant_none (q _ _ _ _ R (.refl _ _) (by simp [VRel]))
theorem EvE.cbool {b k pos} : EvE X env d (.Constant (.bool b) k pos) st (.bool b) st := fun _ fz _ _ ρ s _ R Q _ q => wpAny_Constant_bool (q _ _ _ _ R (.refl _ _) (by simp [VRel]))
theorem EvE.cint {i k pos} : EvE X env d (.Constant (.int i) k pos) st (.int i) st := fun _ fz _ _ ρ s _ R Q _ q => wpAny_Constant_int (q _ _ _ _ (R.keep (tk := s.toks + 1) fun _ _ e => e) (.refl _ _) (by simp [VRel]))
theorem EvE.cstr {i k pos} : EvE X env d (.Constant (.str i) k pos) st (.str i) st := fun _ fz _ _ ρ s _ R Q _ q => wpAny_Constant_str (q _ _ _ _ (R.keep (tk := s.toks + 1) fun _ _ e => e) (.refl _ _) (by simp [VRel]))

theorem EvE.name {x : Str} {pos : Pos} {v : MVal} (h : LdE X env d x st v st') (hd : (x == ("__debug__" : Str)) = false := by decide) : EvE X env d (.Name x pos) st v st' :=
  fun A fz kp kg ρ s a R Q E q => wpAny_Name (h A fz kp kg ρ s a R Q E q) hd
theorem LdE.loc (O : EnvOk env) {x : Str} {v : MVal} (hl : env.kindOf x = some .local) (h : st.loc.lookup x = some v) : LdE X env d x st v st :=
  fun A fz kp kg ρ s a R Q E q => by
    obtain ⟨m, hn, hm⟩ := R.iloc
    obtain ⟨u, hu, r⟩ := hm x v h
    exact wpAny_loadName_local O.k hl hn hu (q _ _ _ _ R (.refl _ _) r)

theorem Rel.cell {fz kp : FH} {kg : Nat → Option GenState} {ρ : List Addr} {s : Shared} (R : Rel X env fz kp kg ρ st s) {x : Str} {i : Nat} {v : MVal} (h1 : st.cells.lookup x = some i) (h2 : st.led[i]? = some (.cell (some v))) :
    ∃ a u, env.cells.lookup x = some a ∧ s.heap.IsCell a (some u) ∧ VRel fz ρ v u := by
  obtain ⟨a, e1, e2⟩ := R.icell x i h1
  obtain ⟨o, e3, u, e4, r⟩ := R.ild i a _ e1 h2
  exact ⟨a, u, e2, ⟨_, e3, e4⟩, r⟩

theorem LdE.cell (O : EnvOk env) {x : Str} {v : MVal} {i : Nat} (hl : env.kindOf x = some .cell) (h1 : st.cells.lookup x = some i) (h2 : st.led[i]? = some (.cell (some v))) : LdE X env d x st v st :=
  fun A fz kp kg ρ s a R Q E q => by
    obtain ⟨a, u, e1, e2, r⟩ := R.cell h1 h2
    exact wpAny_loadName_cell O.k hl e1 e2 (q _ _ _ _ R (.refl _ _) r)
theorem LdE.free (O : EnvOk env) {x : Str} {v : MVal} {i : Nat} (hl : env.kindOf x = some .free) (h1 : st.cells.lookup x = some i) (h2 : st.led[i]? = some (.cell (some v))) (hc : (x == ("__classdict__" : Str)) = false := by decide) : LdE X env d x st v st :=
  fun A fz kp kg ρ s a R Q E q => by
    obtain ⟨a, u, e1, e2, r⟩ := R.cell h1 h2
    exact wpAny_loadName_free O.k hl e1 e2 (q _ _ _ _ R (.refl _ _) r) hc

theorem EvE.bin {l op r pos a b c} (h1 : EvE X env d l st a st₁) (h2 : EvE X env d r st₁ b st₂) (h3 : BinE X env d op a b st₂ c st') : EvE X env d (.BinOp l op r pos) st c st' :=
  fun A fz kp kg ρ s ok R Q E q => wpAny_BinOp (h1 A fz kp kg ρ s ok R _ _ fun fz₁ ρ₁ va s₁ R₁ g₁ r₁ => h2 A fz₁ kp kg ρ₁ s₁ ok R₁ _ _ fun fz₂ ρ₂ vb s₂ R₂ g₂ r₂ =>
    h3 A fz₂ kp kg ρ₂ s₂ va vb ok R₂ (VRel.grow g₂ _ _ r₁) r₂ _ _ fun fz₃ ρ₃ vc s₃ R₃ g₃ r₃ => q _ _ _ _ R₃ ((g₁.trans g₂).trans g₃) r₃)
theorem EvE.cmp {l op r pos a b c} (h1 : EvE X env d l st a st₁) (h2 : EvE X env d r st₁ b st₂) (h3 : CmpE X env d op a b st₂ c st') (hm : behindInMarks op r = false := by with_unfolding_all rfl) : EvE X env d (.Compare l [op] [r] pos) st (.bool c) st' :=
  fun A fz kp kg ρ s ok R Q E q => wpAny_Compare1 (h1 A fz kp kg ρ s ok R _ _ fun fz₁ ρ₁ va s₁ R₁ g₁ r₁ => h2 A fz₁ kp kg ρ₁ s₁ ok R₁ _ _ fun fz₂ ρ₂ vb s₂ R₂ g₂ r₂ =>
    h3 A fz₂ kp kg ρ₂ s₂ va vb ok R₂ (VRel.grow g₂ _ _ r₁) r₂ _ _ fun fz₃ ρ₃ vc s₃ R₃ g₃ r₃ => q _ _ _ _ R₃ ((g₁.trans g₂).trans g₃) (by simpa [VRel] using r₃)) hm
theorem TsE.cmp {l op r pos a b c} (h1 : EvE X env d l st a st₁) (h2 : EvE X env d r st₁ b st₂) (h3 : CmpE X env d op a b st₂ c st') (hm : behindInMarks op r = false := by with_unfolding_all rfl) : TsE X env d (.Compare l [op] [r] pos) st c st' :=
  fun A fz kp kg ρ s ok R Q E q => wpAny_isTrue_Compare1 (h1 A fz kp kg ρ s ok R _ _ fun fz₁ ρ₁ va s₁ R₁ g₁ r₁ => h2 A fz₁ kp kg ρ₁ s₁ ok R₁ _ _ fun fz₂ ρ₂ vb s₂ R₂ g₂ r₂ =>
    h3 A fz₂ kp kg ρ₂ s₂ va vb ok R₂ (VRel.grow g₂ _ _ r₁) r₂ _ _ fun fz₃ ρ₃ vc s₃ R₃ g₃ r₃ => by subst r₃; exact wpAny_truthy_bool (q _ _ _ _ R₃ ((g₁.trans g₂).trans g₃) rfl)) hm
theorem TsE.val {e : Expr} {a b} (h1 : EvE X env d e st a st₁) (h2 : TruE X env d a st₁ b st') (he : isTrue e env (eval e env) = (do let v ← eval e env; standAt e.pos; holding [v] (truthy v)) := by rfl) : TsE X env d e st b st' :=
  fun A fz kp kg ρ s ok R Q E q => wpAny_isTrue_value (h1 A fz kp kg ρ s ok R _ _ fun fz₁ ρ₁ va s₁ R₁ g₁ r₁ => h2 A fz₁ kp kg ρ₁ s₁ va ok R₁ r₁ _ _ fun fz₂ ρ₂ vb s₂ R₂ g₂ r₂ => q _ _ _ _ R₂ (g₁.trans g₂) r₂) he
theorem TsE.not {x pos b} (h : TsE X env d x st b st') : TsE X env d (.UnaryOp .Not x pos) st (!b) st' :=
  fun A fz kp kg ρ s ok R Q E q => wpAny_isTrue_Not (h A fz kp kg ρ s ok R _ _ fun fz₁ ρ₁ va s₁ R₁ g₁ r₁ => q _ _ _ _ R₁ g₁ (by rw [r₁]))
theorem EvE.ife {t b o pos c v} (h1 : TsE X env d t st c st₁) (h2 : EvE X env d (if c then b else o) st₁ v st') : EvE X env d (.IfExp t b o pos) st v st' :=
  fun A fz kp kg ρ s ok R Q E q => wpAny_IfExp (h1 A fz kp kg ρ s ok R _ _ fun fz₁ ρ₁ va s₁ R₁ g₁ r₁ => by
    subst r₁
    cases va
    · exact h2 A fz₁ kp kg ρ₁ s₁ ok R₁ _ _ fun fz₂ ρ₂ vb s₂ R₂ g₂ r₂ => q _ _ _ _ R₂ (g₁.trans g₂) r₂
    · exact h2 A fz₁ kp kg ρ₁ s₁ ok R₁ _ _ fun fz₂ ρ₂ vb s₂ R₂ g₂ r₂ => q _ _ _ _ R₂ (g₁.trans g₂) r₂)
theorem ExS.ife {t b o pos c f} (h1 : TsE X env d t st c st₁) (h2 : ExL X env d (if c then b else o) st₁ f st') : ExS X env d (.If t b o pos) st f st' :=
  fun A fz kp kg ρ s ok R Q E q => wpAny_If (h1 A fz kp kg ρ s ok R _ _ fun fz₁ ρ₁ va s₁ R₁ g₁ r₁ => by
    subst r₁
    cases va
    · exact h2 A fz₁ kp kg ρ₁ s₁ ok R₁ _ _ fun fz₂ ρ₂ vb s₂ R₂ g₂ r₂ => q _ _ _ _ R₂ (g₁.trans g₂) r₂
    · exact h2 A fz₁ kp kg ρ₁ s₁ ok R₁ _ _ fun fz₂ ρ₂ vb s₂ R₂ g₂ r₂ => q _ _ _ _ R₂ (g₁.trans g₂) r₂)
theorem ExL.nil : ExL X env d [] st .next st := fun A fz kp kg ρ s ok R Q E q => wpAny_execs_nil (q _ _ _ _ R (.refl _ _) rfl)
theorem ExL.cons {t r f} (h1 : ExS X env d t st .next st₁) (h2 : ExL X env d r st₁ f st') : ExL X env d (t :: r) st f st' :=
  fun A fz kp kg ρ s ok R Q E q => wpAny_execs_cons (h1 A fz kp kg ρ s ok R _ _ fun fz₁ ρ₁ va s₁ R₁ g₁ r₁ => by
    have e : va = .next := r₁
    subst e
    exact h2 A fz₁ kp kg ρ₁ s₁ ok R₁ _ _ fun fz₂ ρ₂ vb s₂ R₂ g₂ r₂ => q _ _ _ _ R₂ (g₁.trans g₂) r₂)
theorem ExL.stop {t r f} (h1 : ExS X env d t st f st') (hf : f ≠ .next) : ExL X env d (t :: r) st f st' :=
  fun A fz kp kg ρ s ok R Q E q => wpAny_execs_cons (h1 A fz kp kg ρ s ok R _ _ fun fz₁ ρ₁ va s₁ R₁ g₁ r₁ => by
    cases f with
    | next => exact absurd rfl hf
    | brk => have e : va = .brk := r₁; subst e; exact q _ _ _ _ R₁ g₁ rfl
    | cont => have e : va = .cont := r₁; subst e; exact q _ _ _ _ R₁ g₁ rfl
    | ret v => obtain ⟨u, rfl, r⟩ := r₁; exact q _ _ _ _ R₁ g₁ ⟨u, rfl, r⟩)
theorem ExS.ret {e pos v} (h : EvE X env d e st v st') : ExS X env d (.Return (some e) pos) st (.ret v) st' :=
  fun A fz kp kg ρ s ok R Q E q => wpAny_Return_some (h A fz kp kg ρ s ok R _ _ fun fz₁ ρ₁ va s₁ R₁ g₁ r₁ => q _ _ _ _ R₁ g₁ ⟨_, rfl, r₁⟩)
theorem ExS.ret_none {pos} : ExS X env d (.Return none pos) st (.ret .none) st :=
  fun A fz kp kg ρ s ok R Q E q => wpAny_Return_none (q _ _ _ _ R (.refl _ _) ⟨_, rfl, by simp [VRel]⟩)
theorem ExS.pass {pos} : ExS X env d (.Pass pos) st .next st :=
  fun A fz kp kg ρ s ok R Q E q => wpAny_Pass (q _ _ _ _ R (.refl _ _) rfl)
theorem ExS.brk {pos} : ExS X env d (.Break pos) st .brk st :=
  fun A fz kp kg ρ s ok R Q E q => wpAny_Break (q _ _ _ _ R (.refl _ _) rfl)
theorem ExS.cont {pos} : ExS X env d (.Continue pos) st .cont st :=
  fun A fz kp kg ρ s ok R Q E q => wpAny_Continue (q _ _ _ _ R (.refl _ _) rfl)
theorem ExS.expr {e pos v} (h : EvE X env d e st v st') (hi : interactive env = false := by rfl) (hs : swapsWith e none pos.line env = pure false := by rfl) : ExS X env d (.Expr e pos) st .next st' :=
  fun A fz kp kg ρ s ok R Q E q => wpAny_Expr_any (h A fz kp kg ρ s ok R _ _ fun fz₁ ρ₁ va s₁ R₁ g₁ r₁ => q _ _ _ _ R₁ g₁ rfl) hi hs

theorem EvL.nil {pos} : EvL X env d pos [] st [] st := fun A fz kp kg ρ s ok R Q E q => wpAny_items_nil (q _ _ _ _ R (.refl _ _) (by simp [VRels]))
theorem EvL.cons {pos e es v vs} (h1 : EvE X env d e st v st₁) (h2 : EvL X env d pos es st₁ vs st') (he : starEach (e :: es) env = (false, eval e env) :: starEach es env := by rfl) : EvL X env d pos (e :: es) st (v :: vs) st' :=
  fun A fz kp kg ρ s ok R Q E q => wpAny_items_cons (h1 A fz kp kg ρ s ok R _ _ fun fz₁ ρ₁ va s₁ R₁ g₁ r₁ => h2 A fz₁ kp kg ρ₁ s₁ ok R₁ _ _ fun fz₂ ρ₂ vb s₂ R₂ g₂ r₂ =>
    q _ _ _ _ R₂ (g₁.trans g₂) (by simp only [VRels]; exact ⟨va, vb, rfl, VRel.grow g₂ _ _ r₁, r₂⟩)) he

theorem VRels.length {fz : FH} {ρ : List Addr} : ∀ {ms : List MVal} {vs : List Value}, VRels fz ρ ms vs → vs.length = ms.length
  | [], vs, h => by simp only [VRels] at h; subst h; rfl
  | _ :: xs, vs, h => by
    simp only [VRels] at h
    obtain ⟨v, r, rfl, _, h2⟩ := h
    simp [VRels.length h2]

theorem EvE.tup {es k pos vs} (h : EvL X env d pos es st vs st') (hz : vs.length ≤ 10000000 := by decide) : EvE X env d (.Tuple es k pos) st (.tup vs) st' :=
  fun A fz kp kg ρ s ok R Q E q => wpAny_Tuple_spliced (h A fz kp kg ρ s ok R _ _ fun fz₁ ρ₁ va s₁ R₁ g₁ r₁ => by
    refine ⟨by rw [VRels.length r₁, sizeLine_eq]; omega, ?_⟩
    have hn : s₁.heap.get? s₁.heap.objs.size = none := none_of_size
    refine q (upd fz₁ s₁.heap.objs.size (tupO va.toArray 0)) ρ₁ _ _ (R₁.new (tk := s₁.toks) hn (fun _ _ e => Heap.get?_push_of_some _ e) (Heap.get?_push_size _ rfl)) (g₁.trans (grow_upd (R₁.fz_none hn))) ?_
    simp only [VRel]
    exact ⟨_, _, rfl, upd_self .., by simpa using VRels.grow (grow_upd (R₁.fz_none hn)) _ _ r₁⟩)
/-- a list display, frozen at once -/
theorem EvE.lst {es pos vs} (h : EvL X env d pos es st vs st') (hz : vs.length ≤ 10000000 := by decide) : EvE X env d (.List es pos) st (.lst vs) st' :=
  fun A fz kp kg ρ s ok R Q E q => wpAny_List_spliced (h A fz kp kg ρ s ok R _ _ fun fz₁ ρ₁ va s₁ R₁ g₁ r₁ => by
    refine ⟨by rw [VRels.length r₁, sizeLine_eq]; omega, ?_⟩
    have hn : s₁.heap.get? s₁.heap.objs.size = none := none_of_size
    refine q (upd fz₁ s₁.heap.objs.size (lstO va.toArray 0)) ρ₁ _ _ (R₁.new (tk := s₁.toks) hn (fun _ _ e => Heap.get?_push_of_some _ e) (Heap.get?_push_size _ rfl)) (g₁.trans (grow_upd (R₁.fz_none hn))) ?_
    simp only [VRel]
    exact ⟨_, _, 0, rfl, upd_self .., by simpa using VRels.grow (grow_upd (R₁.fz_none hn)) _ _ r₁⟩)
end
end Mine
end
section
open PySem PySem.W PySem.Calls PyProof.Rows
set_option linter.all false
set_option maxRecDepth 100000
namespace Mine

def setA (x : Str) (v : MVal) : List (Str × MVal) → List (Str × MVal)
  | [] => [(x, v)]
  | (y, u) :: r => if y = x then (x, v) :: r else (y, u) :: setA x v r
theorem lookup_setA (x : Str) (v : MVal) (y : Str) : ∀ l : List (Str × MVal), (setA x v l).lookup y = if y = x then some v else l.lookup y
  | [] => by
    simp only [setA, List.lookup_cons, List.lookup_nil]
    by_cases h : y = x
    · simp [h]
    · have : (y == x) = false := by simpa using h
      simp [h, this]
  | (z, u) :: r => by
    simp only [setA]
    by_cases hz : z = x
    · rw [if_pos hz]
      simp only [List.lookup_cons]
      by_cases h : y = x
      · simp [h]
      · have h1 : (y == x) = false := by simpa using h
        have h2 : (y == z) = false := by subst hz; exact h1
        simp [h, h1, h2]
    · rw [if_neg hz]
      simp only [List.lookup_cons, lookup_setA x v y r]
      by_cases h : y = z
      · subst h; simp [hz]
      · have : (y == z) = false := by simpa using h
        simp [this]

theorem nodup_idx {l : List Addr} (h : l.Nodup) {i j : Nat} (hi : i < l.length) (hj : j < l.length) (e : l[i] = l[j]) : i = j := by
  have p := List.pairwise_iff_getElem.mp h
  rcases Nat.lt_trichotomy i j with q | q | q
  · exact absurd e (p i j hi hj q)
  · exact q
  · exact absurd e.symm (p j i hj hi q)
section
variable {X : SX} {env : Env} {d : Nat} {st st' st₁ st₂ st₃ : St} {fz kp : FH} {kg : Nat → Option GenState} {ρ : List Addr} {led : List MObj} {s : Shared}

/-- a change of one object that nobody but its owner speaks of -/
theorem LRel.same (R : LRel X fz kp kg ρ led s) {a : Addr} {h' : Heap} {tk : Nat} (hs : Heap.SameBut a s.heap h') (h1 : fz a = none) (h2 : kp a = none) (h3 : a ∉ ρ) (h4 : ∀ q ∈ X.tabs, q.2 ≠ a) :
    LRel X fz kp kg ρ led { s with heap := h', toks := tk } where
  base := ⟨R.base.os, R.base.bare⟩
  tb := fun q hq => let ⟨ps, e, t⟩ := R.tb q hq; ⟨ps, (hs.2 _ (h4 q hq)).trans e, t⟩
  hb := R.hb
  ifz := fun b o e => (hs.2 b (fun q => by subst q; rw [h1] at e; cases e)).trans (R.ifz b o e)
  ikp := fun b o e => (hs.2 b (fun q => by subst q; rw [h2] at e; cases e)).trans (R.ikp b o e)
  ikg := R.ikg
  len := R.len
  ild := fun i b m e1 e2 => let ⟨o, e, h⟩ := R.ild i b m e1 e2; ⟨o, (hs.2 b (fun q => by subst q; exact h3 (List.mem_of_getElem? e1))).trans e, h⟩
  nd := R.nd
  off := R.off
  offT := R.offT
  dis := R.dis

theorem Rel.store (R : Rel X env fz kp kg ρ st s) {x : Str} {v : MVal} {u : Value} {h' : Heap} {tk : Nat} {m : Str → Option Value} (hr : VRel fz ρ v u) (hm : ∀ x v, st.loc.lookup x = some v → ∃ u, m x = some u ∧ VRel fz ρ v u)
    (hn : h'.Ns env.locals (fun y => if y = x then some u else m y)) (hs : Heap.SameBut env.locals s.heap h') :
    Rel X env fz kp kg ρ { st with loc := setA x v st.loc } { s with heap := h', toks := tk } :=
  { R.toLRel.same (tk := tk) hs R.offL.1 R.offL.2.1 R.offL.2.2.1 R.offL.2.2.2 with
    iloc := ⟨_, hn, fun y w e => by
      dsimp only at e ⊢
      rw [lookup_setA] at e
      split at e
      · rename_i hy; cases e; rw [if_pos hy]; exact ⟨u, rfl, hr⟩
      · rename_i hy; rw [if_neg hy]; exact hm y w e⟩
    icell := R.icell
    offL := R.offL }

def StoreE (X : SX) (env : Env) (d : Nat) (t : Expr) (v : MVal) (st st' : St) : Prop :=
  ∀ A fz kp kg ρ s u, AOk A d → Rel X env fz kp kg ρ st s → VRel fz ρ v u → WP X env A fz kp kg ρ (assign t env u) st' (fun _ _ _ => True) s
def BindE (X : SX) (env : Env) (d : Nat) (x : Str) (v : MVal) (st st' : St) : Prop :=
  ∀ A fz kp kg ρ s u, AOk A d → Rel X env fz kp kg ρ st s → VRel fz ρ v u → WP X env A fz kp kg ρ (storeName env x u) st' (fun _ _ _ => True) s

theorem noClassMod (O : EnvOk env) : (env.scope.kind == .class || (env.scope.kind == .module && env.locals != env.globals)) = false := by rw [O.k]; rfl

theorem BindE.loc (O : EnvOk env) {x : Str} {v : MVal} (hl : env.kindOf x = some .local) : BindE X env d x v st { st with loc := setA x v st.loc } :=
  fun A fz kp kg ρ s u ok R hr Q E q => by
    obtain ⟨m, hn, hm⟩ := R.iloc
    exact wpAny_storeName_local hl hn (fun h' hn' hs' => q _ _ _ _ (R.store hr hm hn' hs') (.refl _ _) trivial) (noClassMod O)

/-- an object of the ledger is changed -/
theorem LRel.upd (R : LRel X fz kp kg ρ led s) {i : Nat} {a : Addr} {m : MObj} {o : Obj} {h' : Heap} {tk : Nat} (hi : ρ[i]? = some a) (hs : Heap.SameBut a s.heap h') (ha : h'.get? a = some o) (ho : ORel fz ρ m o) :
    LRel X fz kp kg ρ (led.set i m) { s with heap := h', toks := tk } where
  base := ⟨R.base.os, R.base.bare⟩
  tb := fun q hq => let ⟨ps, e, t⟩ := R.tb q hq; ⟨ps, (hs.2 _ ((R.off a (List.mem_of_getElem? hi)).2.2 q hq)).trans e, t⟩
  hb := R.hb
  ifz := fun b o e => (hs.2 b (fun q => by subst q; rw [(R.off b (List.mem_of_getElem? hi)).1] at e; cases e)).trans (R.ifz b o e)
  ikp := fun b o e => (hs.2 b (fun q => by subst q; rw [(R.off b (List.mem_of_getElem? hi)).2.1] at e; cases e)).trans (R.ikp b o e)
  ikg := R.ikg
  len := by rw [List.length_set]; exact R.len
  ild := fun j b m' e1 e2 => by
    by_cases hj : i = j
    · subst hj
      rw [hi] at e1; cases e1
      have : i < led.length := by
        have := (List.getElem?_eq_some_iff.mp hi).1
        rw [R.len] at this; exact this
      rw [List.getElem?_set_self this] at e2
      cases e2
      exact ⟨o, ha, ho⟩
    · rw [List.getElem?_set_ne hj] at e2
      obtain ⟨o', e, h⟩ := R.ild j b m' e1 e2
      refine ⟨o', (hs.2 b (fun q => ?_)).trans e, h⟩
      subst q
      obtain ⟨l1, e1'⟩ := List.getElem?_eq_some_iff.mp e1
      obtain ⟨l2, e2'⟩ := List.getElem?_eq_some_iff.mp hi
      exact hj (nodup_idx R.nd l2 l1 (e2'.trans e1'.symm))
  nd := R.nd
  off := R.off
  offT := R.offT
  dis := R.dis

theorem Rel.ne (R : Rel X env fz kp kg ρ st s) {i : Nat} {a : Addr} (hi : ρ[i]? = some a) : env.locals ≠ a := fun q => by
  subst q; exact R.offL.2.2.1 (List.mem_of_getElem? hi)

theorem Rel.updL (R : Rel X env fz kp kg ρ st s) {i : Nat} {a : Addr} {m : MObj} {o : Obj} {h' : Heap} {tk : Nat} (hi : ρ[i]? = some a) (hs : Heap.SameBut a s.heap h') (ha : h'.get? a = some o) (ho : ORel fz ρ m o) :
    Rel X env fz kp kg ρ { st with led := st.led.set i m } { s with heap := h', toks := tk } :=
  { R.toLRel.upd (tk := tk) hi hs ha ho with
    iloc := let ⟨m, hn, h⟩ := R.iloc; ⟨m, hn.sameBut hs (R.ne hi), h⟩
    icell := R.icell
    offL := R.offL }

theorem BindE.cell (O : EnvOk env) {x : Str} {v : MVal} {i : Nat} {w : Option MVal} (hl : env.kindOf x = some .cell) (h1 : st.cells.lookup x = some i) (h2 : st.led[i]? = some (.cell w)) :
    BindE X env d x v st { st with led := st.led.set i (.cell (some v)) } :=
  fun A fz kp kg ρ s u ok R hr Q E q => by
    obtain ⟨a, e1, e2⟩ := R.icell x i h1
    obtain ⟨o, e3, r⟩ := R.ild i a _ e1 h2
    have hc : ∃ v₀, s.heap.IsCell a v₀ := by
      cases w with
      | none => exact ⟨none, o, e3, r⟩
      | some w => obtain ⟨y, e4, _⟩ := r; exact ⟨some y, o, e3, e4⟩
    obtain ⟨v₀, hc⟩ := hc
    refine wpAny_storeName_cell O.k hl e2 hc fun h' hc' hs' => ?_
    obtain ⟨o', e5, e6⟩ := hc'
    exact q _ _ _ _ (R.updL (tk := s.toks) e1 hs' e5 ⟨u, e6, hr⟩) (.refl _ _) trivial

theorem StoreE.name {x : Str} {pos : Pos} {v : MVal} (h : BindE X env d x v st st') : StoreE X env d (.Name x pos) v st st' :=
  fun A fz kp kg ρ s u ok R hr Q E q => wpAny_assign_Name (h A fz kp kg ρ s u ok R hr Q E q)

/-- one target -/
theorem ExS.assign {t value pos v} (h1 : EvE X env d value st v st₁) (h2 : StoreE X env d t v st₁ st') (he : (assignEach [t] env).map (·.2) = [assign t env] := by rfl)
    (hs : swapsWithSole [t] value pos.line env = pure false := by rfl) (hw : swappedStores [t] value env = pure none := by rfl) : ExS X env d (.Assign [t] value pos) st .next st' :=
  fun A fz kp kg ρ s ok R Q E q => wpAny_Assign_stores (h1 A fz kp kg ρ s ok R _ _ fun fz₁ ρ₁ va s₁ R₁ g₁ r₁ => by
    rw [he]
    exact h2 A fz₁ kp kg ρ₁ s₁ va ok R₁ r₁ _ _ fun fz₂ ρ₂ _ s₂ R₂ g₂ _ => q _ _ _ _ R₂ (g₁.trans g₂) rfl) hs hw

/-- several bindings in a row -/
inductive BindsE (X : SX) (env : Env) (d : Nat) : List Str → List MVal → St → St → Prop
  | nil {a : St} : BindsE X env d [] [] a a
  | cons {x : Str} {xs : List Str} {v : MVal} {vs : List MVal} {a b c : St} : BindE X env d x v a b → BindsE X env d xs vs b c → BindsE X env d (x :: xs) (v :: vs) a c
inductive StoresE (X : SX) (env : Env) (d : Nat) : List Expr → List MVal → St → St → Prop
  | nil {a : St} : StoresE X env d [] [] a a
  | cons {x : Expr} {xs : List Expr} {v : MVal} {vs : List MVal} {a b c : St} : StoreE X env d x v a b → StoresE X env d xs vs b c → StoresE X env d (x :: xs) (v :: vs) a c

theorem StoresE.wp {ts : List Expr} {vs : List MVal} (h : StoresE X env d ts vs st st') : ∀ A fz kp kg ρ s us, AOk A d → Rel X env fz kp kg ρ st s → VRels fz ρ vs us →
    WP X env A fz kp kg ρ (assignInOrder (ts.map fun t => assign t env) us) st' (fun _ _ _ => True) s := by
  induction h with
  | nil =>
    intro A fz kp kg ρ s us ok R hr Q E q
    simp only [VRels] at hr
    subst hr
    exact wpAny_assignInOrder_none (q _ _ _ _ R (.refl _ _) trivial)
  | cons h1 h2 ih =>
    intro A fz kp kg ρ s us ok R hr Q E q
    simp only [VRels] at hr
    obtain ⟨u, r, rfl, r1, r2⟩ := hr
    exact wpAny_assignInOrder_more (h1 A fz kp kg ρ s u ok R r1 _ _ fun fz₁ ρ₁ _ s₁ R₁ g₁ _ => ih A fz₁ kp kg ρ₁ s₁ r ok R₁ (VRels.grow g₁ _ _ r2) _ _ fun fz₂ ρ₂ _ s₂ R₂ g₂ _ => q _ _ _ _ R₂ (g₁.trans g₂) trivial)

theorem BindsE.wp {ts : List Str} {vs : List MVal} (h : BindsE X env d ts vs st st') : ∀ A fz kp kg ρ s us, AOk A d → Rel X env fz kp kg ρ st s → VRels fz ρ vs us →
    WP X env A fz kp kg ρ (assignInOrder (ts.map fun t => bindName env t) us) st' (fun _ _ _ => True) s := by
  induction h with
  | nil =>
    intro A fz kp kg ρ s us ok R hr Q E q
    simp only [VRels] at hr
    subst hr
    exact wpAny_assignInOrder_none (q _ _ _ _ R (.refl _ _) trivial)
  | cons h1 h2 ih =>
    intro A fz kp kg ρ s us ok R hr Q E q
    simp only [VRels] at hr
    obtain ⟨u, r, rfl, r1, r2⟩ := hr
    exact wpAny_assignInOrder_more (wpAny_bindName (h1 A fz kp kg ρ s u ok R r1 _ _ fun fz₁ ρ₁ _ s₁ R₁ g₁ _ => ih A fz₁ kp kg ρ₁ s₁ r ok R₁ (VRels.grow g₁ _ _ r2) _ _ fun fz₂ ρ₂ _ s₂ R₂ g₂ _ => q _ _ _ _ R₂ (g₁.trans g₂) trivial))

theorem VRels.append {fz : FH} {ρ : List Addr} : ∀ {xs ys : List MVal} {us ws : List Value}, VRels fz ρ xs us → VRels fz ρ ys ws → VRels fz ρ (xs ++ ys) (us ++ ws)
  | [], ys, us, ws, h1, h2 => by simp only [VRels] at h1; subst h1; exact h2
  | x :: xs, ys, us, ws, h1, h2 => by
    simp only [VRels] at h1
    obtain ⟨v, r, rfl, r1, r2⟩ := h1
    simp only [List.cons_append, VRels]
    exact ⟨v, r ++ ws, rfl, r1, VRels.append r2 h2⟩
theorem VRels.reverse {fz : FH} {ρ : List Addr} : ∀ {xs : List MVal} {us : List Value}, VRels fz ρ xs us → VRels fz ρ xs.reverse us.reverse
  | [], us, h1 => by simp only [VRels] at h1; subst h1; simp [VRels]
  | x :: xs, us, h1 => by
    simp only [VRels] at h1
    obtain ⟨v, r, rfl, r1, r2⟩ := h1
    simp only [List.reverse_cons]
    exact VRels.append (VRels.reverse r2) (by simp only [VRels]; exact ⟨v, [], rfl, r1, rfl⟩)

theorem tup_is {fz : FH} {vs : List MVal} {u : Value} (R : LRel X fz kp kg ρ led s) (h : VRel fz ρ (.tup vs) u) : ∃ a arr, u = .ref a ∧ s.heap.IsTuple a arr ∧ VRels fz ρ vs arr.toList ∧ arr.size = vs.length := by
  simp only [VRel] at h
  obtain ⟨a, arr, rfl, h1, h2⟩ := h
  exact ⟨a, arr, rfl, ⟨_, R.ifz _ _ h1, rfl, _, rfl⟩, h2, by simpa using VRels.length h2⟩

theorem Rel.extBut (R : Rel X env fz kp kg ρ st s) {h' : Heap} {tk : Nat} (hx : Heap.ExtBut s.heap.objs.size s.heap h') : Rel X env fz kp kg ρ st { s with heap := h', toks := tk } :=
  R.keep fun b o e => hx b o (Nat.ne_of_lt (Heap.lt_size e)) e

theorem StoreE.tup {es pos vs} {k : Nat} (h : StoresE X env d es vs st st') (hl : es.length = vs.length := by rfl) (he : assignEach es env = es.map (fun t => (false, assign t env)) := by rfl) : StoreE X env d (.Tuple es k pos) (.tup vs) st st' :=
  fun A fz kp kg ρ s u ok R hr Q E q => by
    obtain ⟨a, arr, rfl, ht, hv, hz⟩ := tup_is R.toLRel hr
    refine wpAny_assign_Tuple ok.h ht (by rw [he, List.length_map, hz, hl]) (by rw [he]; simp [List.findIdx?_eq_none_iff]) fun h' hx => ?_
    have e : (assignEach es env).map (·.2) = es.map fun t => assign t env := by rw [he]; simp
    rw [e]
    exact h.wp A fz kp kg ρ _ _ ok (R.extBut (tk := s.toks) hx) hv Q E q

/-- two or three local names at once: the stores are exchanged -/
theorem ExS.swapped {ts value pos vs} {xs : List Str} (h1 : EvE X env d value st (.tup vs) st₁) (h2 : BindsE X env d xs.reverse vs.reverse st₁ st') (hw : swappedStores ts value env = pure (some xs)) (hl : xs.length = vs.length := by rfl)
    (hs : swapsWithSole ts value pos.line env = pure false := by rfl) : ExS X env d (.Assign ts value pos) st .next st' :=
  fun A fz kp kg ρ s ok R Q E q => by
    rw [exec_Assign_arm]
    refine wpAny_bind (wpAny_standAt ?_)
    rw [hs]
    refine wpAny_bind (wpAny_pure ?_)
    rw [if_neg (by decide)]
    refine wpAny_bind (h1 A fz kp kg ρ s ok R _ _ fun fz₁ ρ₁ va s₁ R₁ g₁ r₁ => ?_)
    rw [hw]
    refine wpAny_bind (wpAny_pure ?_)
    obtain ⟨a, arr, rfl, ht, hv, hz⟩ := tup_is R₁.toLRel r₁
    show wpAny _ A (do rule "assign.swapped-stores"; let items ← unpackItems (.ref a) xs.length none; assignInOrder (xs.reverse.map fun n => bindName env n) items.reverse; pure .next) Q E s₁
    refine wpAny_bind (wpAny_rule ?_)
    have hz' : xs.length = arr.size := by rw [hz, hl]
    rw [hz']
    refine wpAny_bind (wpAny_unpackItems_tuple ok.h ht fun h' hx => ?_)
    exact wpAny_bind (h2.wp A fz₁ kp kg ρ₁ _ _ ok (R₁.extBut (tk := s₁.toks) hx) (VRels.reverse hv) _ _ fun fz₂ ρ₂ _ s₂ R₂ g₂ _ => wpAny_pure (q _ _ _ _ R₂ (g₁.trans g₂) rfl))

def IopE (X : SX) (env : Env) (d : Nat) (op : Operator) (a b : MVal) (st : St) (r : MVal) (st' : St) : Prop :=
  ∀ A fz kp kg ρ s va vb, AOk A d → Rel X env fz kp kg ρ st s → VRel fz ρ a va → VRel fz ρ b vb → WP X env A fz kp kg ρ (inplaceOp op va vb) st' (fun fz ρ v => VRel fz ρ r v) s
theorem ExS.aug {x p op value pos old v r} (h1 : LdE X env d x st old st₁) (h2 : EvE X env d value st₁ v st₂) (h3 : IopE X env d op old v st₂ r st₃)
    (h4 : BindE X env d x r st₃ st') : ExS X env d (.AugAssign (.Name x p) op value pos) st .next st' :=
  fun A fz kp kg ρ s ok R Q E q => wpAny_AugAssign_Name (h1 A fz kp kg ρ s ok R _ _ fun fz₁ ρ₁ va s₁ R₁ g₁ r₁ => h2 A fz₁ kp kg ρ₁ s₁ ok R₁ _ _ fun fz₂ ρ₂ vb s₂ R₂ g₂ r₂ =>
      h3 A fz₂ kp kg ρ₂ s₂ va vb ok R₂ (VRel.grow g₂ _ _ r₁) r₂ _ _ fun fz₃ ρ₃ vc s₃ R₃ g₃ r₃ => h4 A fz₃ kp kg ρ₃ s₃ vc ok R₃ r₃ _ _ fun fz₄ ρ₄ _ s₄ R₄ g₄ _ => q _ _ _ _ R₄ (((g₁.trans g₂).trans g₃).trans g₄) rfl)

theorem LdE.glob (O : EnvOk env) (XO : SXOk X) {x : Str} {v : Value} {r : MVal} (hl : env.kindOf x = some .globalImplicit) (hg : X.mg x = some v)
    (hr : ∀ fz ρ, (∀ a o, X.hb.get? a = some o → fz a = some o) → VRel fz ρ r v) : LdE X env d x st r st :=
  fun A fz kp kg ρ s ok R Q E q => by
    have e : loadName env x = loadGlobal env x := by
      unfold loadName
      simp only [Env.blockKind, O.k, hl, ScopeKind.isAnnotationScope, Bool.false_and, Bool.false_eq_true, if_false]
    rw [e]
    exact Calls.loadGlobal_global (by rw [O.g]; exact XO.g.keeps fun b o e => R.ifz _ _ (R.hb _ _ e)) hg (q _ _ _ _ R (.refl _ _) (hr _ _ R.hb))
theorem LdE.blt (O : EnvOk env) (XO : SXOk X) {x : Str} {v : Value} (hl : env.kindOf x = some .globalImplicit) (hg : X.mg x = none) (hb : bootBuiltins x = some v) (hn : x ≠ "__name__" := by decide) : LdE X env d x st (.obj v) st :=
  fun A fz kp kg ρ s ok R Q E q => by
    have e : loadName env x = loadGlobal env x := by
      unfold loadName
      simp only [Env.blockKind, O.k, hl, ScopeKind.isAnnotationScope, Bool.false_and, Bool.false_eq_true, if_false]
    rw [e]
    exact Calls.loadGlobal_builtin (by rw [O.g]; exact XO.g.keeps fun b o e => R.ifz _ _ (R.hb _ _ e)) hg
      (by rw [O.b]; exact XO.b.keeps fun b o e => R.ifz _ _ (R.hb _ _ e)) ((XO.blt x hn).trans hb) (q _ _ _ _ R (.refl _ _) (by simp [VRel]))
theorem mg_is (XO : SXOk X) {x : Str} {v : Value} (h : nsIn X.K mainGlobals x = some (some v)) : X.mg x = some v := mg_of XO.kin XO.g h
theorem mg_no (XO : SXOk X) {x : Str} (h : nsIn X.K mainGlobals x = some none) : X.mg x = none := mg_none_of XO.kin XO.g h
end
end Mine
end
section
open PySem PySem.W PySem.Calls PyProof.Rows
set_option linter.all false
set_option maxRecDepth 100000
namespace Mine

mutual
/-- all references lie below n -/
def MVal.refsLt (n : Nat) : MVal → Bool
  | .tup vs => belows n vs
  | .lst vs => belows n vs
  | .dct _ vs => belows n vs
  | .ref i => decide (i < n)
  | .bm _ s => s.refsLt n
  | .inst _ _ vs => belows n vs
  | .insr _ i => decide (i < n)
  | .clo _ cs => cs.all fun x => decide (x.2 < n)
  | .fo _ vs => belows n vs
  | _ => true
def belows (n : Nat) : List MVal → Bool
  | [] => true
  | x :: xs => x.refsLt n && belows n xs
end
def MObj.refsLt (n : Nat) : MObj → Bool
  | .lst vs => belows n vs
  | .cell none => true
  | .cell (some v) => v.refsLt n
  | .dct ds => ds.all fun x => x.2.refsLt n

theorem CRel.take {ρ : List Addr} {n : Nat} : ∀ (cs : List (Str × Nat)) (l : List (Str × Addr)), (cs.all fun x => decide (x.2 < n)) = true → CRel ρ cs l → CRel (ρ.take n) cs l
  | [], l, _, h => h
  | (x, k) :: r, l, b, ⟨a, t, e, h1, h2⟩ => by
    simp only [List.all_cons, Bool.and_eq_true, decide_eq_true_eq] at b
    exact ⟨a, t, e, by rw [List.getElem?_take, if_pos b.1]; exact h1, CRel.take r t b.2 h2⟩
mutual
theorem VRel.take {fz : FH} {ρ : List Addr} {n : Nat} : ∀ (m : MVal) (v : Value), m.refsLt n = true → VRel fz ρ m v → VRel fz (ρ.take n) m v
  | .none, v, _, h => by simpa [VRel] using h
  | .bool b, v, _, h => by simpa [VRel] using h
  | .int i, v, _, h => by simpa [VRel] using h
  | .str s, v, _, h => by simpa [VRel] using h
  | .tup vs, v, b, h => by
    simp only [VRel] at h ⊢
    obtain ⟨a, arr, rfl, h1, h2⟩ := h
    exact ⟨a, arr, rfl, h1, VRels.take vs _ b h2⟩
  | .lst vs, v, b, h => by
    simp only [VRel] at h ⊢
    obtain ⟨a, arr, ep, rfl, h1, h2⟩ := h
    exact ⟨a, arr, ep, rfl, h1, VRels.take vs _ b h2⟩
  | .dct ks vs, v, b, h => by
    simp only [VRel] at h ⊢
    obtain ⟨a, es, ep, rfl, h1, h2, h3, h4⟩ := h
    exact ⟨a, es, ep, rfl, h1, h2, h3, VRels.take vs _ b h4⟩
  | .ref i, v, b, h => by
    simp only [VRel] at h ⊢
    obtain ⟨a, h1, rfl⟩ := h
    have : i < n := by simpa [MVal.refsLt] using b
    exact ⟨a, by rw [List.getElem?_take, if_pos this]; exact h1, rfl⟩
  | .obj v', v, _, h => by simpa [VRel] using h
  | .bm id self, v, b, h => by
    simp only [VRel] at h ⊢
    obtain ⟨a, x, rfl, h1, h2⟩ := h
    exact ⟨a, x, rfl, h1, VRel.take self _ b h2⟩
  | .inst C ks vs, v, b, h => by
    simp only [VRel] at h ⊢
    obtain ⟨a, dx, es, ep, rfl, h1, h2, h3, h4, h5⟩ := h
    exact ⟨a, dx, es, ep, rfl, h1, h2, h3, h4, VRels.take vs _ b h5⟩
  | .rng a b, v, _, h => by simpa [VRel] using h
  | .insr C i, v, b, h => by
    simp only [VRel] at h ⊢
    obtain ⟨a, dx, rfl, h1, h2⟩ := h
    have : i < n := by simpa [MVal.refsLt] using b
    exact ⟨a, dx, rfl, h1, by rw [List.getElem?_take, if_pos this]; exact h2⟩
  | .clo F cs, v, b, h => by
    simp only [VRel] at h ⊢
    obtain ⟨a, clos, doc, pm, c', ctv, oc, vs, t, rfl, h1, h2, h3, h4, h5⟩ := h
    exact ⟨a, clos, doc, pm, c', ctv, oc, vs, t, rfl, h1, CRel.take _ _ b h2, h3, h4, h5⟩
  | .gen k, v, _, h => by simpa [VRel] using h
  | .fo T vs, v, b, h => by
    simp only [VRel] at h ⊢
    obtain ⟨a, arr, rfl, h1, h2⟩ := h
    exact ⟨a, arr, rfl, h1, VRels.take vs _ b h2⟩
theorem VRels.take {fz : FH} {ρ : List Addr} {n : Nat} : ∀ (ms : List MVal) (vs : List Value), belows n ms = true → VRels fz ρ ms vs → VRels fz (ρ.take n) ms vs
  | [], vs, _, h => by simpa [VRels] using h
  | x :: xs, vs, b, h => by
    simp only [VRels] at h ⊢
    simp only [belows, Bool.and_eq_true] at b
    obtain ⟨v, r, rfl, h1, h2⟩ := h
    exact ⟨v, r, rfl, VRel.take x _ b.1 h1, VRels.take xs _ b.2 h2⟩
end
theorem DRel.take {fz : FH} {ρ : List Addr} {n : Nat} : ∀ (m : List (Str × MVal)) (l : List DictEntry), (m.all fun x => x.2.refsLt n) = true → DRel fz ρ m l → DRel fz (ρ.take n) m l
  | [], _, _, h => h
  | (k, v) :: r, _, b, ⟨h, t, u, es, e, h1, h2⟩ => by
    simp only [List.all_cons, Bool.and_eq_true] at b
    exact ⟨h, t, u, es, e, VRel.take _ _ b.1 h1, DRel.take r es b.2 h2⟩
theorem ORel.take {fz : FH} {ρ : List Addr} {n : Nat} : ∀ (m : MObj) (v : Obj), m.refsLt n = true → ORel fz ρ m v → ORel fz (ρ.take n) m v
  | .lst vs, _, b, ⟨arr, ep, e, h⟩ => ⟨arr, ep, e, VRels.take _ _ b h⟩
  | .cell none, _, _, h => h
  | .cell (some v), _, b, ⟨x, e, h⟩ => ⟨x, e, VRel.take _ _ b h⟩
  | .dct ds, _, b, ⟨es, ep, e, h1⟩ => ⟨es, ep, e, DRel.take _ _ b h1⟩

section
variable {X : SX} {env : Env} {d : Nat} {st st' st₁ st₂ st₃ : St} {fz kp : FH} {kg : Nat → Option GenState} {ρ : List Addr} {led led' : List MObj} {s : Shared}

/-- the newest objects of the ledger are let go -/
theorem LRel.drop (R : LRel X fz kp kg ρ led s) (n : Nat) (hn : n ≤ led.length) (hb : (led.take n).all (MObj.refsLt n) = true) : LRel X fz kp kg (ρ.take n) (led.take n) s where
  base := R.base
  tb := R.tb
  hb := R.hb
  ifz := R.ifz
  ikp := R.ikp
  ikg := R.ikg
  len := by rw [List.length_take, List.length_take, R.len]
  ild := fun i a m e1 e2 => by
    by_cases hi : i < n
    · have e1' : ρ[i]? = some a := by rw [List.getElem?_take, if_pos hi] at e1; exact e1
      have e2' : led[i]? = some m := by rw [List.getElem?_take, if_pos hi] at e2; exact e2
      obtain ⟨o, h1, h2⟩ := R.ild i a m e1' e2'
      exact ⟨o, h1, ORel.take _ _ (List.all_eq_true.mp hb _ (List.mem_of_getElem? e2)) h2⟩
    · rw [List.getElem?_take, if_neg hi] at e1; exact nomatch e1
  nd := List.Nodup.sublist (List.take_sublist n ρ) R.nd
  off := fun a ha => R.off a (List.mem_of_mem_take ha)
  offT := R.offT
  dis := R.dis

def KRels (fz : FH) (ρ : List Addr) (kw : List (Str × MVal)) (kvs : List (Str × Value)) : Prop := kvs.map (·.1) = kw.map (·.1) ∧ VRels fz ρ (kw.map (·.2)) (kvs.map (·.2))

def CallsTo (X : SX) (d : Nat) (f : MVal) (args : List MVal) (kw : List (Str × MVal)) (led : List MObj) (r : MVal) (led' : List MObj) : Prop :=
  ∀ A fz kp kg ρ s fv vs kvs (R : Result → Shared → Prop), AOk A d → LRel X fz kp kg ρ led s → VRel fz ρ f fv → VRels fz ρ args vs → KRels fz ρ kw kvs →
    (∀ fz' ρ' v s', LRel X fz' kp kg ρ' led' s' → Grow fz ρ fz' ρ' → VRel fz' ρ' r v → R (.ok (.ret v)) s') → codeAny (model X.prog X.w) A (.call fv ⟨vs, kvs⟩) R s

def AppE (X : SX) (env : Env) (d : Nat) (f : MVal) (args : List MVal) (kw : List (Str × MVal)) (st : St) (r : MVal) (st' : St) : Prop :=
  ∀ A fz kp kg ρ s fv vs kvs, AOk A d → Rel X env fz kp kg ρ st s → VRel fz ρ f fv → VRels fz ρ args vs → KRels fz ρ kw kvs → WP X env A fz kp kg ρ (call fv vs kvs) st' (fun fz ρ v => VRel fz ρ r v) s

/-- the frame of the caller is kept by the callee -/
theorem Rel.hide (R : Rel X env fz kp kg ρ st s) : ∃ oL, s.heap.get? env.locals = some oL ∧ LRel X fz (fun b => if b = env.locals then some oL else kp b) kg ρ st.led s := by
  obtain ⟨oL, e⟩ := R.ns_some
  refine ⟨oL, e, { R.toLRel with ikp := fun a o h => ?_, off := fun a ha => ?_, offT := fun q hq => ?_, dis := fun a o h => ?_ }⟩
  · split at h
    · rename_i q; cases h; subst q; exact e
    · exact R.ikp a o h
  · obtain ⟨h1, h2, h3⟩ := R.off a ha
    refine ⟨h1, ?_, h3⟩
    rw [if_neg (fun q => by subst q; exact R.offL.2.2.1 ha)]
    exact h2
  · obtain ⟨h1, h2⟩ := R.offT q hq
    refine ⟨h1, ?_⟩
    rw [if_neg (R.offL.2.2.2 q hq)]
    exact h2
  · split at h
    · rename_i q; subst q; exact R.offL.1
    · exact R.dis a o h

theorem Rel.back (R : Rel X env fz kp kg ρ st s) {oL : Obj} (eL : s.heap.get? env.locals = some oL) {fz' : FH} {ρ' : List Addr} {led' : List MObj} {s' : Shared}
    (R' : LRel X fz' (fun b => if b = env.locals then some oL else kp b) kg ρ' led' s') (g : Grow fz ρ fz' ρ') : Rel X env fz' kp kg ρ' { st with led := led' } s' := by
  have hL : s'.heap.get? env.locals = some oL := R'.ikp _ _ (by simp)
  have hfz : fz' env.locals = none := R'.dis _ oL (by simp)
  obtain ⟨m, ⟨o, es, ep, e1, e2⟩, hm⟩ := R.iloc
  rw [eL] at e1; cases e1
  refine { R' with ikp := fun a o h => ?_, off := fun a ha => ?_, offT := fun q hq => ?_, dis := fun a o h => ?_, iloc := ⟨m, ⟨oL, es, ep, hL, e2⟩, fun x v e => ?_⟩, icell := fun x i e => ?_, offL := ?_ }
  · by_cases q : a = env.locals
    · subst q; rw [R.offL.2.1] at h; cases h
    · exact R'.ikp a o (by rw [if_neg q]; exact h)
  · obtain ⟨h1, h2, h3⟩ := R'.off a ha
    refine ⟨h1, ?_, h3⟩
    split at h2
    · cases h2
    · exact h2
  · obtain ⟨h1, h2⟩ := R'.offT q hq
    refine ⟨h1, ?_⟩
    split at h2
    · cases h2
    · exact h2
  · by_cases q : a = env.locals
    · subst q; rw [R.offL.2.1] at h; cases h
    · exact R'.dis a o (by rw [if_neg q]; exact h)
  · obtain ⟨u, h1, h2⟩ := hm x v e
    exact ⟨u, h1, VRel.grow g _ _ h2⟩
  · obtain ⟨a, h1, h2⟩ := R.icell x i e
    exact ⟨a, g.at h1, h2⟩
  · refine ⟨hfz, R.offL.2.1, fun q => ?_, R.offL.2.2.2⟩
    have h := (R'.off _ q).2.1
    simp at h
end
end Mine
end
section
open PySem PySem.W PySem.Calls PyProof.Rows
set_option linter.all false
set_option maxRecDepth 100000
namespace Mine

theorem lookup_cons_ne {α : Type} {x y : Str} {v : α} {r : List (Str × α)} (h : x ≠ y) : ((y, v) :: r).lookup x = r.lookup x := by
  have : (x == y) = false := by simpa using h
  simp [List.lookup_cons, this]
theorem mem_lookup {α : Type} : ∀ {l : List (Str × α)} {x : Str} {v : α}, (l.map (·.1)).Nodup → (x, v) ∈ l → l.lookup x = some v
  | (y, u) :: r, x, v, hn, hm => by
    simp only [List.map_cons, List.nodup_cons] at hn
    rcases List.mem_cons.mp hm with e | hm2
    · cases e; simp [List.lookup_cons]
    · have : x ≠ y := fun q => hn.1 (q ▸ List.mem_map.mpr ⟨(x, v), hm2, rfl⟩)
      rw [lookup_cons_ne this]
      exact mem_lookup hn.2 hm2
theorem lookup_mem {α : Type} : ∀ {l : List (Str × α)} {x : Str} {v : α}, l.lookup x = some v → (x, v) ∈ l
  | (y, u) :: r, x, v, h => by
    by_cases q : x = y
    · subst q; simp [List.lookup_cons] at h; subst h; exact List.mem_cons_self
    · rw [lookup_cons_ne q] at h; exact List.mem_cons_of_mem _ (lookup_mem h)

/-- the bindings of a call, over their meaning -/
theorem binds_rel {fz : FH} {ρ : List Addr} : ∀ {bm : List (Str × MVal)} {binds : List (Str × Value)}, binds.map (·.1) = bm.map (·.1) → VRels fz ρ (bm.map (·.2)) (binds.map (·.2)) → ∀ {x v}, (x, v) ∈ bm → ∃ u, (x, u) ∈ binds ∧ VRel fz ρ v u
  | [], _, _, _, _, _, h => nomatch h
  | (y, w) :: r, [], h, _, _, _, _ => by simp at h
  | (y, w) :: r, (z, u) :: bs, h1, h2, x, v, hm => by
    simp only [List.map_cons, List.cons.injEq] at h1
    simp only [List.map_cons, VRels, List.cons.injEq] at h2
    obtain ⟨v', r', ⟨rfl, rfl⟩, r1, r2⟩ := h2
    rcases List.mem_cons.mp hm with e | hm
    · cases e
      refine ⟨u, ?_, r1⟩
      rw [← h1.1]; exact List.mem_cons_self
    · obtain ⟨u', h3, h4⟩ := binds_rel h1.2 r2 hm
      exact ⟨u', List.mem_cons_of_mem _ h3, h4⟩

section
variable {X : SX} {env : Env} {d : Nat} {st st' st₁ st₂ st₃ : St} {fz kp : FH} {kg : Nat → Option GenState} {ρ : List Addr} {led led' : List MObj} {s : Shared}

theorem AOk.deeper {A : Around} (h : AOk A (d + 1)) (env : Env) : AOk (A.deeper env) d where
  h := h.h
  depth := by have := h.depth; show A.depth + 1 + d < 1000; omega
  units := by have := h.units; show A.units + 3 + 20 * d + 200 < 9900; omega
theorem AOk.in1 {A : Around} (h : AOk A d) : A.in1.depth = A.depth ∧ A.in1.handled = none := ⟨rfl, h.h⟩
theorem AOk.room {A : Around} (h : AOk A d) : A.depth < recursionLimit := by have := h.depth; show A.depth < 1000; omega

theorem LRel.hbk (R : LRel X fz kp kg ρ led s) : ∀ b o, X.hb.get? b = some o → s.heap.get? b = some o := fun b o e => R.ifz _ _ (R.hb _ _ e)
theorem LRel.kin (R : LRel X fz kp kg ρ led s) (XO : SXOk X) : X.K.In s.heap := XO.kin.keeps R.hbk

def flowRes : MFlow → Option MVal
  | .ret v => some v
  | .next => some .none
  | _ => none

structure FnOk (X : SX) (f : Addr) (fd : FuncData) (b : List Stmt) : Prop where
  look : ∃ oc od sl, X.K.lookup f = some ⟨oc, od, .func fd, sl⟩
  body : fd.body = .stmts b
  glob : fd.globals = mainGlobals
  blt : fd.builtins = builtinsNs
  kind : fd.scope.kind = .function
  co : fd.scope.isCoroutine = false
  clos : fd.closure = []
  code : codeIn X.K fd.code fd.qualname = true

def BindsTo' (X : SX) (fd : FuncData) (args : List MVal) (kw : List (Str × MVal)) (bm : List (Str × MVal)) : Prop :=
  ∀ fz ρ vs kvs, (∀ a o, X.hb.get? a = some o → fz a = some o) → VRels fz ρ args vs → KRels fz ρ kw kvs →
    ∃ binds, (∀ S, peek X.K S (bindArgs fd ⟨vs, kvs⟩) = some binds) ∧ binds.map (·.1) = bm.map (·.1) ∧ VRels fz ρ (bm.map (·.2)) (binds.map (·.2))

theorem LRel.frame (R : LRel X fz kp kg ρ led s) {h' : Heap} {tk : Nat} {m : Str → Option Value} {env : Env} {bm : List (Str × MVal)} {cs : List (Str × Nat)} (hL : env.locals = s.heap.objs.size) (hk : ∀ b o, s.heap.get? b = some o → h'.get? b = some o)
    (hn : h'.Ns env.locals m) (hm : ∀ x v, bm.lookup x = some v → ∃ u, m x = some u ∧ VRel fz ρ v u) (hc : ∀ x i, cs.lookup x = some i → ∃ a, ρ[i]? = some a ∧ env.cells.lookup x = some a) : Rel X env fz kp kg ρ ⟨bm, cs, led⟩ { s with heap := h', toks := tk } :=
  { R.keep (tk := tk) hk with
    iloc := ⟨m, hn, hm⟩
    icell := hc
    offL := ⟨R.fz_none (hL ▸ none_of_size), R.kp_none (hL ▸ none_of_size), R.notin (hL ▸ none_of_size), fun q hq e => by
      obtain ⟨ps, e', _⟩ := R.tb q hq
      rw [e, hL, none_of_size] at e'; cases e'⟩ }

/-- a call of a def of the top that has no cells of its own: all that it laid stays -/
theorem CallsTo.fn (XO : SXOk X) {f : Addr} {fd : FuncData} {b : List Stmt} {args : List MVal} {kw : List (Str × MVal)} {r : MVal} {bm : List (Str × MVal)} {fl : MFlow} (O : FnOk X f fd b) (hgen : fd.scope.isGenerator = false) (hcell : (fd.scope.names.all fun x => x.2 != .cell) = true)
    (hbind : BindsTo' X fd args kw bm) (hloc : (bm.all fun x => decide (fd.scope.names.lookup x.1 = some .local)) = true) (hnd : (bm.map (·.1)).Nodup)
    (body : ∀ L a, ∃ st', ExL X (callEnv fd L a) d b ⟨bm, [], led⟩ fl st' ∧ st'.led = led') (hfl : flowRes fl = some r) :
    CallsTo X (d + 1) (.obj (.ref f)) args kw led r led' := by
  intro A fz kp kg ρ s fv vs kvs Rz ok R hf hv hk q
  simp only [VRel] at hf
  subst hf
  obtain ⟨oc, od, sl, hK⟩ := O.look
  have KI := R.kin XO
  have ho := KI _ _ hK
  obtain ⟨binds, hb1, hb2, hb3⟩ := hbind fz ρ vs kvs R.hb hv hk
  have hB : BindsTo s fd ⟨vs, kvs⟩ binds := kp_binds KI hb1
  have hcell' : ∀ x ∈ fd.scope.names, x.2 ≠ .cell := fun x hx e => by
    have := List.all_eq_true.mp hcell x hx
    rw [e] at this
    exact absurd this (by decide)
  have hloc' : ∀ x ∈ binds, fd.scope.names.lookup x.1 = some .local := fun x hx => by
    have h1 : x.1 ∈ bm.map (·.1) := hb2 ▸ List.mem_map_of_mem hx
    obtain ⟨y, hy, e⟩ := List.mem_map.mp h1
    have := of_decide_eq_true (List.all_eq_true.mp hloc y hy)
    rw [← e]; exact this
  refine codeAny_call_def (fd := fd) (body := b) ok.room ho rfl (XO.nolimit.keeps R.hbk) (codeRec_of KI O.code) O.body hB hcell' hloc' (fun h₀ hns hkeep => ?_) O.co hgen O.kind
  have eL : (callEnv fd s.heap.objs.size f).locals = s.heap.objs.size := rfl
  have hnb : (binds.map (·.1)).Nodup := hb2 ▸ hnd
  have RF := R.frame (env := callEnv fd s.heap.objs.size f) (tk := s.toks + binds.length) (bm := bm) (cs := []) eL hkeep hns (fun x v e => by
    obtain ⟨u, h1, h2⟩ := binds_rel hb2 hb3 (lookup_mem e)
    refine ⟨u, mem_lookup ?_ (List.mem_reverse.mpr h1), h2⟩
    rw [List.map_reverse]; exact (List.reverse_perm _).nodup_iff.mpr hnb) (fun x i e => by cases e)
  obtain ⟨st', hbd, eled⟩ := body s.heap.objs.size f
  refine hbd (A.deeper _) fz kp kg ρ _ (ok.deeper _) RF _ _ fun fz' ρ' fv s' R' g hfr => ?_
  have RL' := R'.toLRel
  rw [eled] at RL'
  cases fl with
  | ret v =>
    simp only [flowRes, Option.some.injEq] at hfl
    subst hfl
    obtain ⟨u, rfl, hu⟩ := hfr
    exact q _ _ _ _ RL' g hu
  | next =>
    simp only [flowRes, Option.some.injEq] at hfl
    subst hfl
    have e : fv = .next := hfr
    subst e
    exact q _ _ _ _ RL' g (by simp [VRel])
  | brk => cases hfl
  | cont => cases hfl

/-- what the callee laid is let go -/
theorem CallsTo.cut {f : MVal} {args : List MVal} {kw : List (Str × MVal)} {r : MVal} {led'' : List MObj} (h : CallsTo X d f args kw led r led'') (hlen : led.length ≤ led''.length) (hled : led''.take led.length = led')
    (hlt : led'.all (MObj.refsLt led.length) = true) (hr : r.refsLt led.length = true) : CallsTo X d f args kw led r led' := by
  intro A fz kp kg ρ s fv vs kvs Rz ok R hf hv hk q
  refine h A fz kp kg ρ s fv vs kvs Rz ok R hf hv hk fun fz' ρ' v s' R' g hv' => ?_
  have RD := R'.drop led.length hlen (by rw [hled]; exact hlt)
  rw [hled] at RD
  have hρ : ρ'.take led.length = ρ := by
    obtain ⟨_, t, rfl⟩ := g
    rw [← R.len, List.take_left']
    rfl
  rw [hρ] at RD
  exact q _ _ _ _ RD ⟨g.1, [], by simp⟩ (hρ ▸ VRel.take _ _ hr hv')

/-- what a def within a def made: its names of the outer def are cells of the ledger -/
def BindsC (F : CloF) (args : List MVal) (kw : List (Str × MVal)) (bm : List (Str × MVal)) : Prop :=
  ∀ fz ρ vs kvs clos doc pm cdv ctv, VRels fz ρ args vs → KRels fz ρ kw kvs →
    ∃ binds, bindArgs (fnX F.name F.qual F.params F.body F.scope clos .none .none doc pm none cdv ctv) ⟨vs, kvs⟩ = pure binds ∧ binds.map (·.1) = bm.map (·.1) ∧ VRels fz ρ (bm.map (·.2)) (binds.map (·.2))

theorem CRel.look {ρ : List Addr} : ∀ {cs : List (Str × Nat)} {l : List (Str × Addr)}, CRel ρ cs l → ∀ {x : Str} {i : Nat}, cs.lookup x = some i → ∃ a, ρ[i]? = some a ∧ l.lookup x = some a
  | (y, k) :: r, l, ⟨a, t, e, h1, h2⟩, x, i, h => by
    subst e
    by_cases q : x = y
    · subst q; simp [List.lookup_cons] at h ⊢; subst h; exact h1
    · rw [lookup_cons_ne q] at h ⊢; exact CRel.look h2 h

theorem CallsTo.clo (XO : SXOk X) {F : CloF} {cs : List (Str × Nat)} {args : List MVal} {kw : List (Str × MVal)} {r : MVal} {bm : List (Str × MVal)} {fl : MFlow} (hgen : F.scope.isGenerator = false) (hco : F.scope.isCoroutine = false) (hkind : F.scope.kind = .function) (hcell : (F.scope.names.all fun x => x.2 != .cell) = true)
    (hbind : BindsC F args kw bm) (hloc : (bm.all fun x => decide (F.scope.names.lookup x.1 = some .local)) = true) (hnd : (bm.map (·.1)).Nodup)
    (body : ∀ L a c' clos, ∃ st', ExL X (envX F.qual F.scope L a (.ref c') clos) d F.body ⟨bm, cs, led⟩ fl st' ∧ st'.led = led') (hfl : flowRes fl = some r) :
    CallsTo X (d + 1) (.clo F cs) args kw led r led' := by
  intro A fz kp kg ρ s fv vs kvs Rz ok R hf hv hk q
  simp only [VRel] at hf
  obtain ⟨a, clos, doc, pm, c', ctv, oc, ws, t, rfl, h1, h2, h3, h4, h5⟩ := hf
  have ho := R.ifz _ _ h1
  obtain ⟨binds, hb1, hb2, hb3⟩ := hbind fz ρ vs kvs clos doc pm (.ref c') ctv hv hk
  have hB : BindsTo s (fnX F.name F.qual F.params F.body F.scope clos .none .none doc pm none (.ref c') ctv) ⟨vs, kvs⟩ binds := fun _ _ _ _ hq => by rw [hb1]; exact wpAny_pure hq
  have hcell' : ∀ x ∈ F.scope.names, x.2 ≠ .cell := fun x hx e => by
    have := List.all_eq_true.mp hcell x hx
    rw [e] at this
    exact absurd this (by decide)
  have hloc' : ∀ x ∈ binds, F.scope.names.lookup x.1 = some .local := fun x hx => by
    have h1 : x.1 ∈ bm.map (·.1) := hb2 ▸ List.mem_map_of_mem hx
    obtain ⟨y, hy, e⟩ := List.mem_map.mp h1
    have := of_decide_eq_true (List.all_eq_true.mp hloc y hy)
    rw [← e]; exact this
  refine codeAny_call_def (fd := fnX F.name F.qual F.params F.body F.scope clos .none .none doc pm none (.ref c') ctv) (body := F.body) ok.room ho rfl (XO.nolimit.keeps R.hbk) ⟨c', oc, ws, t, rfl, R.ifz _ _ h3, h4, h5⟩ rfl hB hcell' hloc' (fun h₀ hns hkeep => ?_) hco hgen hkind
  have hnb : (binds.map (·.1)).Nodup := hb2 ▸ hnd
  have RF := R.frame (env := envX F.qual F.scope s.heap.objs.size a (.ref c') clos) (tk := s.toks + binds.length) (bm := bm) (cs := cs) rfl hkeep hns (fun x v e => by
    obtain ⟨u, h1, h2⟩ := binds_rel hb2 hb3 (lookup_mem e)
    refine ⟨u, mem_lookup ?_ (List.mem_reverse.mpr h1), h2⟩
    rw [List.map_reverse]; exact (List.reverse_perm _).nodup_iff.mpr hnb) (fun x i e => CRel.look h2 e)
  obtain ⟨st', hbd, eled⟩ := body s.heap.objs.size a c' clos
  refine hbd (A.deeper _) fz kp kg ρ _ (ok.deeper _) RF _ _ fun fz' ρ' fv s' R' g hfr => ?_
  have RL' := R'.toLRel
  rw [eled] at RL'
  cases fl with
  | ret v =>
    simp only [flowRes, Option.some.injEq] at hfl
    subst hfl
    obtain ⟨u, rfl, hu⟩ := hfr
    exact q _ _ _ _ RL' g hu
  | next =>
    simp only [flowRes, Option.some.injEq] at hfl
    subst hfl
    have e : fv = .next := hfr
    subst e
    exact q _ _ _ _ RL' g (by simp [VRel])
  | brk => cases hfl
  | cont => cases hfl

theorem AppE.of {f : MVal} {args : List MVal} {kw : List (Str × MVal)} {r : MVal} (h : CallsTo X d f args kw st.led r led') : AppE X env d f args kw st r { st with led := led' } := by
  intro A fz kp kg ρ s fv vs kvs ok R hf hv hk Q E q
  obtain ⟨oL, eL, RH⟩ := R.hide
  exact wpAny_call (h A fz _ kg ρ s fv vs kvs _ ok RH hf hv hk fun fz' ρ' v s' R' g hv' => q _ _ _ _ (R.back eL R' g) g hv')

theorem evalArgs_all {f : Value} {M : Model} {A : Around} {E : Value → Shared → Prop} {args : List (Bool × Sem Value)} {keywords : List (Option Str × Sem Value)} {Q : Args → Shared → Prop} (hst : args.any (·.1) = false) (hall : keywords.all (·.1.isSome) = true)
    (h : wpAny M A (spliced args) (fun vs s₁ => wpAny M A (evalAll (keywords.map (·.2))) (fun ks s₂ => Q ⟨vs, (keywords.filterMap (·.1)).zip ks⟩ s₂) E s₁) E s) : wpAny M A (evalArgs f true args keywords) Q E s := by
  cases args with
  | nil =>
    refine evalArgs_kw_nil hall ?_
    intro Γ p hΓ
    have := h Γ p hΓ
    exact this Γ p hΓ
  | cons a rest =>
    obtain ⟨b, x⟩ := a
    simp only [List.any_cons, Bool.or_eq_false_iff] at hst
    obtain ⟨rfl, _⟩ := hst
    exact evalArgs_kw hall h

def EvA (X : SX) (env : Env) (d : Nat) (pos : Pos) (ks : List Keyword) (st : St) (rs : List (Str × MVal)) (st' : St) : Prop :=
  ∀ A fz kp kg ρ s, AOk A d → Rel X env fz kp kg ρ st s → WP X env A fz kp kg ρ (evalAll ((backToKw pos (keywordEach ks env)).map (·.2))) st' (fun fz ρ vs => VRels fz ρ (rs.map (·.2)) vs ∧ (backToKw pos (keywordEach ks env)).filterMap (·.1) = rs.map (·.1)) s
theorem EvA.nil {pos} : EvA X env d pos [] st [] st := fun A fz kp kg ρ s ok R Q E q => wpAny_evalAll_nil (q _ _ _ _ R (.refl _ _) ⟨by simp [VRels], rfl⟩)
theorem EvA.cons {pos n e p r v vs} (h1 : EvE X env d e st v st₁) (h2 : EvA X env d pos r st₁ vs st') : EvA X env d pos (⟨some n, e, p⟩ :: r) st ((n, v) :: vs) st' :=
  fun A fz kp kg ρ s ok R Q E q => by
    have hE : (backToKw pos (keywordEach (⟨some n, e, p⟩ :: r) env)) = (some n, (do let v ← eval e env; standAt pos; pure v)) :: backToKw pos (keywordEach r env) := rfl
    rw [hE]
    refine wpAny_evalAll_cons ?_
    refine wpAny_bind (h1 A fz kp kg ρ s ok R _ _ fun fz₁ ρ₁ va s₁ R₁ g₁ r₁ => wpAny_bind (wpAny_standAt (wpAny_pure ?_)))
    exact h2 A fz₁ kp kg ρ₁ s₁ ok R₁ _ _ fun fz₂ ρ₂ vb s₂ R₂ g₂ r₂ => q _ _ _ _ R₂ (g₁.trans g₂) ⟨by simp only [List.map_cons, VRels]; exact ⟨va, vb, rfl, VRel.grow g₂ _ _ r₁, r₂.1⟩, by rw [hE]; simp [r₂.2]⟩

/-- how the interpreter keeps what it calls -/
def KpE (X : SX) (f : MVal) : Prop := ∀ fz kp kg ρ led s fv, LRel X fz kp kg ρ led s → VRel fz ρ f fv → ∃ k, (k = Keeper.frame ∨ k = Keeper.machine ∨ k = Keeper.boundFrame) ∧ Looks (model X.prog X.w) s.heap (keeperOf fv) k
theorem KpE.blt {id : String} : KpE X (.obj (.builtin id)) := fun fz kp kg ρ led s fv R h => by
  simp only [VRel] at h; subst h
  exact ⟨.machine, .inr (.inl rfl), Looks.of_pure rfl⟩
theorem KpE.type {id : String} : KpE X (.obj (.type id)) := fun fz kp kg ρ led s fv R h => by
  simp only [VRel] at h; subst h
  exact ⟨.machine, .inr (.inl rfl), Looks.of_pure rfl⟩
theorem KpE.stat (XO : SXOk X) {v : Value} (h : keepIn X.K v = true) : KpE X (.obj v) := fun fz kp kg ρ led s fv R hv => by
  simp only [VRel] at hv; subst hv
  exact keeps_K h _ (R.kin XO)

theorem callWithE {pos args kws f first vs kvs r} (hk : KpE X f) (ha : EvL X env d pos args st vs st₁) (hkw : EvA X env d pos kws st₁ kvs st₂) (happ : AppE X env d f (first ++ vs) kvs st₂ r st')
    (hst : (backTo pos (starEach args env)).any (·.1) = false := by rfl) (hall : (backToKw pos (keywordEach kws env)).all (·.1.isSome) = true := by rfl) (hkn : (backToKw pos (keywordEach kws env)).any (·.1.isNone) = false := by rfl) :
    ∀ A fz kp kg ρ s fv fs, AOk A d → Rel X env fz kp kg ρ st s → VRel fz ρ f fv → VRels fz ρ first fs → WP X env A fz kp kg ρ (callWith pos fv fs (backTo pos (starEach args env)) (backToKw pos (keywordEach kws env))) st' (fun fz ρ v => VRel fz ρ r v) s :=
  fun A fz kp kg ρ s fv fs ok R hf hfs Q E q => by
    refine callWith_of (P := fun h => ∃ k, (k = Keeper.frame ∨ k = Keeper.machine ∨ k = Keeper.boundFrame) ∧ Looks (model X.prog X.w) h (keeperOf fv) k) (by rw [hst, hkn]; rfl) (fun _ h => h) ?_
    refine evalArgs_all hst hall ?_
    refine ha A fz kp kg ρ s ok R _ _ fun fz₁ ρ₁ va s₁ R₁ g₁ r₁ => ?_
    refine hkw A fz₁ kp kg ρ₁ s₁ ok R₁ _ _ fun fz₂ ρ₂ vb s₂ R₂ g₂ r₂ => ?_
    have hf₂ := VRel.grow (g₁.trans g₂) _ _ hf
    refine ⟨hk _ _ _ _ _ _ _ R₂.toLRel hf₂, ?_⟩
    refine happ A fz₂ kp kg ρ₂ s₂ fv _ _ ok R₂ hf₂ (VRels.append (VRels.grow (g₁.trans g₂) _ _ hfs) (VRels.grow g₂ _ _ r₁)) ⟨?_, ?_⟩ _ _ fun fz₃ ρ₃ v s₃ R₃ g₃ r₃ => q _ _ _ _ R₃ ((g₁.trans g₂).trans g₃) r₃
    · rw [r₂.2, List.map_fst_zip]
      simp [VRels.length r₂.1]
    · rw [r₂.2, List.map_snd_zip]
      · exact r₂.1
      · simp [VRels.length r₂.1]

theorem EvE.call {func args kws pos f vs kvs r} (hf : EvE X env d func st f st₁) (hk : KpE X f) (ha : EvL X env d pos args st₁ vs st₂) (hkw : EvA X env d pos kws st₂ kvs st₃) (happ : AppE X env d f vs kvs st₃ r st')
    (he : eval (.Call func args kws pos) env = (do callWith pos (← eval func env) [] (backTo pos (starEach args env)) (backToKw pos (keywordEach kws env))) := by rfl)
    (hst : (backTo pos (starEach args env)).any (·.1) = false := by rfl) (hall : (backToKw pos (keywordEach kws env)).all (·.1.isSome) = true := by rfl) (hkn : (backToKw pos (keywordEach kws env)).any (·.1.isNone) = false := by rfl) :
    EvE X env d (.Call func args kws pos) st r st' :=
  fun A fz kp kg ρ s ok R Q E q => by
    rw [he]
    exact wpAny_bind (hf A fz kp kg ρ s ok R _ _ fun fz₁ ρ₁ va s₁ R₁ g₁ r₁ => callWithE (first := []) hk ha hkw happ hst hall hkn A fz₁ kp kg ρ₁ s₁ va [] ok R₁ r₁ (by simp [VRels]) _ _ fun fz₂ ρ₂ v s₂ R₂ g₂ r₂ => q _ _ _ _ R₂ (g₁.trans g₂) r₂)
end
end Mine
end
section
open PySem PySem.W PySem.Calls PyProof.Rows
set_option linter.all false
set_option maxRecDepth 100000
namespace Mine

theorem VRels.get {fz : FH} {ρ : List Addr} : ∀ {ms : List MVal} {us : List Value} {k : Nat} {v : MVal}, VRels fz ρ ms us → ms[k]? = some v → ∃ u, us[k]? = some u ∧ VRel fz ρ v u
  | [], us, k, v, h, e => by simp at e
  | x :: xs, us, k, v, h, e => by
    simp only [VRels] at h
    obtain ⟨u, r, rfl, r1, r2⟩ := h
    cases k with
    | zero => simp at e; subst e; exact ⟨u, by simp, r1⟩
    | succ k => simpa using VRels.get r2 (by simpa using e)
theorem VRels.getNone {fz : FH} {ρ : List Addr} {ms : List MVal} {us : List Value} {k : Nat} (h : VRels fz ρ ms us) (e : ms[k]? = none) : us[k]? = none := by
  rw [List.getElem?_eq_none_iff] at e ⊢
  rw [VRels.length h]; exact e
theorem VRels.pick {fz : FH} {ρ : List Addr} {ms : List MVal} {us : List Value} (h : VRels fz ρ ms us) : ∀ (l : List Nat), VRels fz ρ (l.filterMap (ms[·]?)) (l.filterMap (us[·]?))
  | [] => by simp [VRels]
  | k :: l => by
    simp only [List.filterMap_cons]
    cases e : ms[k]? with
    | none => rw [VRels.getNone h e]; exact VRels.pick h l
    | some v =>
      obtain ⟨u, e', r⟩ := VRels.get h e
      rw [e']
      simp only [VRels]
      exact ⟨u, _, rfl, r, VRels.pick h l⟩

def sliceL {α : Type} (vs : List α) (lo hi : Option Int) : List α :=
  (sliceRange (sliceBounds lo hi none vs.length).1 (sliceBounds lo hi none vs.length).2.1 (sliceBounds lo hi none vs.length).2.2).filterMap (vs[·]?)
def sliceS (x : Str) (lo hi : Option Int) : Str := if (Builtin.Str.strSliceIndices lo hi 1 x.length).length == x.length then x else ⟨((Builtin.Str.strSliceIndices lo hi 1 x.length).filterMap (x.cps[·]?)).toArray⟩
def strAt (x : Str) (k : Nat) : Option Str := (x.cps[k]?).map fun c => ⟨#[c]⟩

theorem seqIdx_pos {k : Int} {n : Nat} (h0 : 0 ≤ k) (h1 : k < n) : seqIndex? k n = some k.toNat := by
  unfold seqIndex?
  simp only [if_neg (Int.not_lt.mpr h0)]
  rw [if_pos]
  simp [h0, h1]
theorem seqIdx_neg {k : Int} {n : Nat} (h0 : k < 0) (h1 : -(n : Int) ≤ k) : seqIndex? k n = some (k + n).toNat := by
  unfold seqIndex?
  simp only [if_pos h0]
  rw [if_pos]
  simp; omega

section
variable {X : SX} {env : Env} {d : Nat} {st st' st₁ st₂ st₃ : St} {fz kp : FH} {kg : Nat → Option GenState} {ρ : List Addr} {led led' : List MObj} {s : Shared}

theorem Rel.tk (R : Rel X env fz kp kg ρ st s) (t : Nat) : Rel X env fz kp kg ρ st { s with toks := t } := R.keep fun _ _ e => e

-- ints
theorem BinE.addI {a b : Int} : BinE X env d .Add (.int a) (.int b) st (.int (a + b)) st := fun A fz kp kg ρ s va vb ok R ha hb Q E q => by
  simp only [VRel] at ha hb; obtain ⟨t, rfl⟩ := ha; obtain ⟨u, rfl⟩ := hb
  exact add_int (q _ _ _ _ (R.tk _) (.refl _ _) (by simp [VRel]))
theorem BinE.subI {a b : Int} : BinE X env d .Sub (.int a) (.int b) st (.int (a - b)) st := fun A fz kp kg ρ s va vb ok R ha hb Q E q => by
  simp only [VRel] at ha hb; obtain ⟨t, rfl⟩ := ha; obtain ⟨u, rfl⟩ := hb
  exact sub_int (q _ _ _ _ (R.tk _) (.refl _ _) (by simp [VRel]))
theorem BinE.modI {a b : Int} (h : b ≠ 0) : BinE X env d .Mod (.int a) (.int b) st (.int (a.fmod b)) st := fun A fz kp kg ρ s va vb ok R ha hb Q E q => by
  simp only [VRel] at ha hb; obtain ⟨t, rfl⟩ := ha; obtain ⟨u, rfl⟩ := hb
  exact mod_int' h (q _ _ _ _ (R.tk _) (.refl _ _) (by simp [VRel]))
theorem BinE.divI {a b : Int} (h : b ≠ 0) (hs : b.natAbs < 1073741824) : BinE X env d .FloorDiv (.int a) (.int b) st (.int (a.fdiv b)) st := fun A fz kp kg ρ s va vb ok R ha hb Q E q => by
  simp only [VRel] at ha hb; obtain ⟨t, rfl⟩ := ha; obtain ⟨u, rfl⟩ := hb
  exact floordiv_int h (q _ _ _ _ (R.tk _) (.refl _ _) (by simp [VRel])) (.inl (PyProof.noPylong_small hs))
theorem BinE.xorI {a b : Int} : BinE X env d .BitXor (.int a) (.int b) st (.int (Builtin.bitXor a b)) st := fun A fz kp kg ρ s va vb ok R ha hb Q E q => by
  simp only [VRel] at ha hb; obtain ⟨t, rfl⟩ := ha; obtain ⟨u, rfl⟩ := hb
  exact xor_int (q _ _ _ _ (R.tk _) (.refl _ _) (by simp [VRel]))
theorem BinE.mulI {a b : Int} (h : IntMulOk a b) : BinE X env d .Mult (.int a) (.int b) st (.int (a * b)) st := fun A fz kp kg ρ s va vb ok R ha hb Q E q => by
  simp only [VRel] at ha hb; obtain ⟨t, rfl⟩ := ha; obtain ⟨u, rfl⟩ := hb
  exact mul_int (q _ _ _ _ (R.tk _) (.refl _ _) (by simp [VRel])) h
theorem IopE.addI {a b : Int} : IopE X env d .Add (.int a) (.int b) st (.int (a + b)) st := fun A fz kp kg ρ s va vb ok R ha hb Q E q => by
  simp only [VRel] at ha hb; obtain ⟨t, rfl⟩ := ha; obtain ⟨u, rfl⟩ := hb
  exact iadd_int (q _ _ _ _ (R.tk _) (.refl _ _) (by simp [VRel]))
theorem IopE.subI {a b : Int} : IopE X env d .Sub (.int a) (.int b) st (.int (a - b)) st := fun A fz kp kg ρ s va vb ok R ha hb Q E q => by
  simp only [VRel] at ha hb; obtain ⟨t, rfl⟩ := ha; obtain ⟨u, rfl⟩ := hb
  exact isub_int (q _ _ _ _ (R.tk _) (.refl _ _) (by simp [VRel]))
theorem CmpE.eqI {a b : Int} : CmpE X env d .Eq (.int a) (.int b) st (a == b) st := fun A fz kp kg ρ s va vb ok R ha hb Q E q => by
  simp only [VRel] at ha hb; obtain ⟨t, rfl⟩ := ha; obtain ⟨u, rfl⟩ := hb
  exact eq_int (q _ _ _ _ R (.refl _ _) rfl)
theorem CmpE.neI {a b : Int} : CmpE X env d .NotEq (.int a) (.int b) st (a != b) st := fun A fz kp kg ρ s va vb ok R ha hb Q E q => by
  simp only [VRel] at ha hb; obtain ⟨t, rfl⟩ := ha; obtain ⟨u, rfl⟩ := hb
  exact ne_int (q _ _ _ _ R (.refl _ _) rfl)
theorem CmpE.ltI {a b : Int} : CmpE X env d .Lt (.int a) (.int b) st (decide (a < b)) st := fun A fz kp kg ρ s va vb ok R ha hb Q E q => by
  simp only [VRel] at ha hb; obtain ⟨t, rfl⟩ := ha; obtain ⟨u, rfl⟩ := hb
  exact lt_int (q _ _ _ _ R (.refl _ _) rfl)
theorem CmpE.leI {a b : Int} : CmpE X env d .LtE (.int a) (.int b) st (decide (a ≤ b)) st := fun A fz kp kg ρ s va vb ok R ha hb Q E q => by
  simp only [VRel] at ha hb; obtain ⟨t, rfl⟩ := ha; obtain ⟨u, rfl⟩ := hb
  exact le_int (q _ _ _ _ R (.refl _ _) rfl)
theorem CmpE.gtI {a b : Int} : CmpE X env d .Gt (.int a) (.int b) st (decide (a > b)) st := fun A fz kp kg ρ s va vb ok R ha hb Q E q => by
  simp only [VRel] at ha hb; obtain ⟨t, rfl⟩ := ha; obtain ⟨u, rfl⟩ := hb
  exact gt_int (q _ _ _ _ R (.refl _ _) rfl)
theorem CmpE.geI {a b : Int} : CmpE X env d .GtE (.int a) (.int b) st (decide (a ≥ b)) st := fun A fz kp kg ρ s va vb ok R ha hb Q E q => by
  simp only [VRel] at ha hb; obtain ⟨t, rfl⟩ := ha; obtain ⟨u, rfl⟩ := hb
  exact ge_int (q _ _ _ _ R (.refl _ _) rfl)
-- strs
theorem CmpE.eqS {a b : Str} : CmpE X env d .Eq (.str a) (.str b) st (a == b) st := fun A fz kp kg ρ s va vb ok R ha hb Q E q => by
  simp only [VRel] at ha hb; obtain ⟨t, rfl⟩ := ha; obtain ⟨u, rfl⟩ := hb
  exact eq_str (q _ _ _ _ R (.refl _ _) rfl)
theorem CmpE.neS {a b : Str} : CmpE X env d .NotEq (.str a) (.str b) st (a != b) st := fun A fz kp kg ρ s va vb ok R ha hb Q E q => by
  simp only [VRel] at ha hb; obtain ⟨t, rfl⟩ := ha; obtain ⟨u, rfl⟩ := hb
  exact ne_str (q _ _ _ _ R (.refl _ _) rfl)
theorem BinE.addS {x y : Str} (h : x.length + y.length ≤ 10000000) : BinE X env d .Add (.str x) (.str y) st (.str (x ++ y)) st := fun A fz kp kg ρ s va vb ok R ha hb Q E q => by
  simp only [VRel] at ha hb; obtain ⟨t, rfl⟩ := ha; obtain ⟨u, rfl⟩ := hb
  have hz : x.length + y.length ≤ sizeLine := by rw [sizeLine_eq]; omega
  exact add_str (hsz := hz) fun t' tk => q _ _ _ _ (R.tk _) (.refl _ _) (by simp only [VRel]; exact ⟨_, rfl⟩)
-- is
theorem plainIs_none {v : Value} (h : ∀ id, v ≠ .builtin id) : plainIs v .none = true := by cases v <;> first | rfl | exact absurd rfl (h _)
theorem CmpE.isNone {a : MVal} {b : Bool} (hb : ∀ fz ρ v, VRel fz ρ a v → (v == Value.none) = b ∧ ∀ id, v ≠ .builtin id) : CmpE X env d .Is a .none st b st := fun A fz kp kg ρ s va vb ok R ha hn Q E q => by
  simp only [VRel] at hn; subst hn
  exact wpAny_is_plain (plainIs_none (hb _ _ _ ha).2) (q _ _ _ _ R (.refl _ _) (by rw [(hb _ _ _ ha).1]))
theorem CmpE.isNotNone {a : MVal} {b : Bool} (hb : ∀ fz ρ v, VRel fz ρ a v → (v == Value.none) = b ∧ ∀ id, v ≠ .builtin id) : CmpE X env d .IsNot a .none st (!b) st := fun A fz kp kg ρ s va vb ok R ha hn Q E q => by
  simp only [VRel] at hn; subst hn
  exact wpAny_isNot_plain (plainIs_none (hb _ _ _ ha).2) (q _ _ _ _ R (.refl _ _) (by rw [(hb _ _ _ ha).1]))
/-- never None -/
def MVal.notNone : MVal → Bool
  | .none => false
  | .obj (.ref _) => true
  | .obj (.type _) => true
  | .obj _ => false
  | _ => true
theorem notNone_is {a : MVal} (h : a.notNone = true) : ∀ fz ρ v, VRel fz ρ a v → (v == Value.none) = false ∧ ∀ id, v ≠ .builtin id := fun fz ρ v hv => by
  cases a <;> simp only [MVal.notNone, VRel] at h hv
  case none => exact absurd h (by decide)
  case bool b => subst hv; exact ⟨rfl, nofun⟩
  case int i => obtain ⟨t, rfl⟩ := hv; exact ⟨rfl, nofun⟩
  case str i => obtain ⟨t, rfl⟩ := hv; exact ⟨rfl, nofun⟩
  case tup vs => obtain ⟨a, _, rfl, _⟩ := hv; exact ⟨rfl, nofun⟩
  case lst vs => obtain ⟨a, _, _, rfl, _⟩ := hv; exact ⟨rfl, nofun⟩
  case dct vs => obtain ⟨a, _, _, rfl, _⟩ := hv; exact ⟨rfl, nofun⟩
  case ref i => obtain ⟨a, _, rfl⟩ := hv; exact ⟨rfl, nofun⟩
  case bm id self => obtain ⟨a, _, rfl, _⟩ := hv; exact ⟨rfl, nofun⟩
  case inst C ks vs => obtain ⟨a, _, _, _, rfl, _⟩ := hv; exact ⟨rfl, nofun⟩
  case rng a b => obtain ⟨_, _, _, _, rfl, _⟩ := hv; exact ⟨rfl, nofun⟩
  case insr C i => obtain ⟨a, _, rfl, _⟩ := hv; exact ⟨rfl, nofun⟩
  case clo F cs => obtain ⟨a, _, _, _, _, _, _, _, _, rfl, _⟩ := hv; exact ⟨rfl, nofun⟩
  case gen g => obtain ⟨a, _, _, rfl, _⟩ := hv; exact ⟨rfl, nofun⟩
  case fo T vs => obtain ⟨a, _, rfl, _⟩ := hv; exact ⟨rfl, nofun⟩
  case obj v =>
    subst hv
    cases v
    case ref a => exact ⟨rfl, fun _ e => by cases e⟩
    case type a => exact ⟨rfl, fun _ e => by cases e⟩
    all_goals (simp at h)
theorem none_is : ∀ fz ρ v, VRel fz ρ .none v → (v == Value.none) = true ∧ ∀ id, v ≠ .builtin id := fun fz ρ v hv => by
  simp only [VRel] at hv; subst hv; exact ⟨rfl, nofun⟩
theorem CmpE.noneIs : CmpE X env d .Is .none .none st true st := .isNone none_is
theorem CmpE.noneIsNot : CmpE X env d .IsNot .none .none st false st := .isNotNone (b := true) none_is
theorem CmpE.otherIs {a : MVal} (h : a.notNone = true := by rfl) : CmpE X env d .Is a .none st false st := .isNone (notNone_is h)
theorem CmpE.otherIsNot {a : MVal} (h : a.notNone = true := by rfl) : CmpE X env d .IsNot a .none st true st := .isNotNone (b := false) (notNone_is h)
-- truth
theorem TruE.bool {b : Bool} : TruE X env d (.bool b) st b st := fun A fz kp kg ρ s va ok R ha Q E q => by
  simp only [VRel] at ha; subst ha
  exact wpAny_truthy_bool (q _ _ _ _ R (.refl _ _) rfl)
theorem TruE.int {a : Int} : TruE X env d (.int a) st (a != 0) st := fun A fz kp kg ρ s va ok R ha Q E q => by
  simp only [VRel] at ha; obtain ⟨t, rfl⟩ := ha
  exact truthy_int (q _ _ _ _ R (.refl _ _) rfl)
theorem TruE.none : TruE X env d .none st false st := fun A fz kp kg ρ s va ok R ha Q E q => by
  simp only [VRel] at ha; subst ha
  intro Γ p hΓ
  exact q _ _ _ _ R (.refl _ _) rfl
theorem TruE.str {x : Str} (h : x.length ≤ 10000000) : TruE X env d (.str x) st ((x.length : Int) != 0) st := fun A fz kp kg ρ s va ok R ha Q E q => by
  simp only [VRel] at ha; obtain ⟨t, rfl⟩ := ha
  exact P.truthy_str (by omega) (q _ _ _ _ (R.tk _) (.refl _ _) rfl)
theorem lst_is {vs : List MVal} {u : Value} (R : LRel X fz kp kg ρ led s) (h : VRel fz ρ (.lst vs) u) : ∃ a arr, u = .ref a ∧ s.heap.PlainList a arr ∧ VRels fz ρ vs arr.toList ∧ arr.size = vs.length := by
  simp only [VRel] at h
  obtain ⟨a, arr, ep, rfl, h1, h2⟩ := h
  exact ⟨a, arr, rfl, ⟨ep, R.ifz _ _ h1⟩, h2, by simpa using VRels.length h2⟩
/-- a list of the ledger -/
theorem ref_is {i : Nat} {vs : List MVal} {u : Value} (R : LRel X fz kp kg ρ led s) (hl : led[i]? = some (.lst vs)) (h : VRel fz ρ (.ref i) u) : ∃ a arr ep, ρ[i]? = some a ∧ u = .ref a ∧ s.heap.get? a = some (lstO arr ep) ∧ VRels fz ρ vs arr.toList ∧ arr.size = vs.length := by
  simp only [VRel] at h
  obtain ⟨a, h1, rfl⟩ := h
  obtain ⟨o, h2, arr, ep, rfl, h3⟩ := R.ild i a _ h1 hl
  exact ⟨a, arr, ep, h1, rfl, h2, h3, by simpa using VRels.length h3⟩
theorem isEmpty_of {arr : Array Value} {vs : List MVal} (h : arr.size = vs.length) : arr.isEmpty = vs.isEmpty := by
  cases vs with
  | nil => simp at h; simp [h]
  | cons x xs =>
    cases q : arr.isEmpty with
    | false => rfl
    | true => simp at q; simp [q] at h
theorem TruE.lst {vs : List MVal} (h : vs.length ≤ 10000000) : TruE X env d (.lst vs) st (!vs.isEmpty) st := fun A fz kp kg ρ s va ok R ha Q E q => by
  obtain ⟨a, arr, rfl, hl, hv, hz⟩ := lst_is R.toLRel ha
  exact wpAny_truthy_list hl.isList (by omega) (q _ _ _ _ (R.tk _) (.refl _ _) (by rw [isEmpty_of hz]))
theorem TruE.ref {i : Nat} {vs : List MVal} (hi : st.led[i]? = some (.lst vs)) (h : vs.length ≤ 10000000) : TruE X env d (.ref i) st (!vs.isEmpty) st := fun A fz kp kg ρ s va ok R ha Q E q => by
  obtain ⟨a, arr, ep, h1, rfl, hl, hv, hz⟩ := ref_is R.toLRel hi ha
  exact wpAny_truthy_list ⟨_, hl, rfl, _, rfl⟩ (by omega) (q _ _ _ _ (R.tk _) (.refl _ _) (by rw [isEmpty_of hz]))
theorem TruE.tup {vs : List MVal} (h : vs.length ≤ 10000000) : TruE X env d (.tup vs) st (!vs.isEmpty) st := fun A fz kp kg ρ s va ok R ha Q E q => by
  obtain ⟨a, arr, rfl, hl, hv, hz⟩ := tup_is R.toLRel ha
  exact truthy_tuple hl (by omega) (q _ _ _ _ (R.tk _) (.refl _ _) (by rw [isEmpty_of hz]))

-- items
def ItE (X : SX) (env : Env) (d : Nat) (a b : MVal) (st : St) (r : MVal) (st' : St) : Prop :=
  ∀ A fz kp kg ρ s va vb (value slice : Expr), AOk A d → Rel X env fz kp kg ρ st s → VRel fz ρ a va → VRel fz ρ b vb →
    (∀ o i, subscripted slice false o i = operate [o, i] (getItem o i)) → WP X env A fz kp kg ρ (subscriptTail value slice va vb) st' (fun fz ρ v => VRel fz ρ r v) s
theorem EvE.sub {v i pos a b r} (h1 : EvE X env d v st a st₁) (h2 : EvE X env d i st₁ b st₂) (h3 : ItE X env d a b st₂ r st') (hs : ∀ o j, subscripted i false o j = operate [o, j] (getItem o j) := by intro _ _; with_unfolding_all rfl) :
    EvE X env d (.Subscript v i pos) st r st' :=
  fun A fz kp kg ρ s ok R Q E q => Subscript_ (h1 A fz kp kg ρ s ok R _ _ fun fz₁ ρ₁ va s₁ R₁ g₁ r₁ => h2 A fz₁ kp kg ρ₁ s₁ ok R₁ _ _ fun fz₂ ρ₂ vb s₂ R₂ g₂ r₂ =>
    h3 A fz₂ kp kg ρ₂ s₂ va vb v i ok R₂ (VRel.grow g₂ _ _ r₁) r₂ hs _ _ fun fz₃ ρ₃ vc s₃ R₃ g₃ r₃ => q _ _ _ _ R₃ ((g₁.trans g₂).trans g₃) r₃)
theorem listAt {l : Addr} {items : Array Value} {k : Int} {u : Tok} {j : Nat} {x : Value} {A : Around} {E : Value → Shared → Prop} {Q : Value → Shared → Prop} (hl : s.heap.IsList l items)
    (hlo : -(2 ^ 63) ≤ k) (hhi : k < 2 ^ 63) (hj : seqIndex? k items.size = some j) (hx : items[j]? = some x) (h : Q x s) : wpAny (model X.prog X.w) A (getItem (.ref l) (.int k u)) Q E s := by
  by_cases h0 : 0 ≤ k
  · refine wpAny_getItem_list hl h0 hhi ?_ h
    have : k < items.size := by
      unfold seqIndex? at hj
      simp only [if_neg (Int.not_lt.mpr h0)] at hj
      split at hj
      · rename_i hc; simp at hc; omega
      · cases hj
    rw [seqIdx_pos h0 this] at hj
    cases hj; exact hx
  · have hn : k < 0 := by omega
    have hge : -(items.size : Int) ≤ k := by
      unfold seqIndex? at hj
      simp only [if_pos hn] at hj
      split at hj
      · rename_i hc; simp at hc; omega
      · cases hj
    rw [seqIdx_neg hn hge] at hj
    cases hj
    exact wpAny_getItem_list_neg hl hn hge hlo hx h
end
end Mine
end
section
open PySem PySem.W PySem.Calls PyProof.Rows
set_option linter.all false
set_option maxRecDepth 100000
namespace Mine

abbrev litO (l : Addr) (i : Nat) : Obj := { cls := .type "list_iterator", data := .fields #[.ref l, .int i 0] }
abbrev titO (l : Addr) (i : Nat) : Obj := { cls := .type "tuple_iterator", data := .fields #[.ref l, .int i 0] }
abbrev ritO (x left : Int) : Obj := { cls := .type "range_iterator", data := .fields #[rawInt x, rawInt left, rawInt 1] }
def intsL (x : Int) : Nat → List MVal
  | 0 => []
  | n + 1 => .int x :: intsL (x + 1) n
theorem ints_length (x : Int) (n : Nat) : (intsL x n).length = n := by
  induction n generalizing x with
  | zero => rfl
  | succ n ih => simp [intsL, ih]

/-- an iterator with what it has still to give -/
inductive IterRel (fz : FH) (ρ : List Addr) : List MVal → Obj → Prop
  | list {l : Addr} {arr : Array Value} {ep i : Nat} {rest : List MVal} {o : Obj} : fz l = some (lstO arr ep) → VRels fz ρ rest (arr.toList.drop i) → o.cls = .type "list_iterator" → o.data = .fields #[.ref l, .int i 0] → IterRel fz ρ rest o
  | tup {l : Addr} {arr : Array Value} {ep i : Nat} {rest : List MVal} {o : Obj} : fz l = some (tupO arr ep) → VRels fz ρ rest (arr.toList.drop i) → o.cls = .type "tuple_iterator" → o.data = .fields #[.ref l, .int i 0] → IterRel fz ρ rest o
  | range {x : Int} {n : Nat} : IterRel fz ρ (intsL x n) (ritO x n)

theorem IterRel.grow {fz fz' : FH} {ρ ρ' : List Addr} (g : Grow fz ρ fz' ρ') {rest : List MVal} {o : Obj} (h : IterRel fz ρ rest o) : IterRel fz' ρ' rest o := by
  cases h with
  | list h1 h2 h3 h4 => exact .list (g.1 _ _ h1) (VRels.grow g _ _ h2) h3 h4
  | tup h1 h2 h3 h4 => exact .tup (g.1 _ _ h1) (VRels.grow g _ _ h2) h3 h4
  | range => exact .range

theorem drop_nil {α : Type} {l : List α} {i : Nat} (h : l.drop i = []) : l[i]? = none := by
  rw [List.getElem?_eq_none_iff]
  simpa using h
theorem drop_cons {α : Type} {l r : List α} {x : α} {i : Nat} (h : l.drop i = x :: r) : l[i]? = some x ∧ l.drop (i + 1) = r := by
  have h1 : (l.drop i)[0]? = some x := by rw [h]; rfl
  rw [List.getElem?_drop] at h1
  refine ⟨by simpa using h1, ?_⟩
  rw [← List.drop_drop, h]
  rfl

section
variable {X : SX} {env : Env} {d : Nat} {st st' st₁ st₂ st₃ : St} {fz kp : FH} {kg : Nat → Option GenState} {ρ : List Addr} {led led' : List MObj} {s : Shared} {A : Around}


theorem next_nil {I : Addr} {o : Obj} (hh : A.handled = none) (R : LRel X fz kp kg ρ led s) (hI : s.heap.get? I = some o) (h : IterRel fz ρ [] o) {Q : Option Value → Shared → Prop} {E : Value → Shared → Prop}
    (q : ∀ h', Heap.ExtBut I s.heap h' → Q none { s with heap := h' }) : wpAny (model X.prog X.w) A (pyNext (.ref I)) Q E s := by
  generalize hr : ([] : List MVal) = rest at h
  cases h with
  | list h1 h2 k1 k2 =>
    subst hr
    simp only [VRels] at h2
    exact wpAny_pyNext_list_end hh ⟨_, hI, k1, k2⟩ ⟨_, R.ifz _ _ h1, rfl, _, rfl⟩ (by rw [← Array.getElem?_toList]; exact drop_nil h2) q
  | tup h1 h2 k1 k2 =>
    subst hr
    simp only [VRels] at h2
    exact wpAny_pyNext_tuple_end hh ⟨_, hI, k1, k2⟩ ⟨_, R.ifz _ _ h1, rfl, _, rfl⟩ (by rw [← Array.getElem?_toList]; exact drop_nil h2) q
  | range =>
    rename_i x n
    cases n with
    | zero => exact wpAny_pyNext_range_end hh (x := x) (left := 0) (step := 1) hI (by omega) q
    | succ n => simp [intsL] at hr

theorem next_cons {I : Addr} {o : Obj} {x : MVal} {r : List MVal} (R : LRel X fz kp kg ρ led s) (hI : s.heap.get? I = some o) (h : IterRel fz ρ (x :: r) o) {Q : Option Value → Shared → Prop} {E : Value → Shared → Prop}
    (q : ∀ h' tk u o', Heap.SameBut I s.heap h' → h'.get? I = some o' → IterRel fz ρ r o' → VRel fz ρ x u → Q (some u) { s with heap := h', toks := tk }) : wpAny (model X.prog X.w) A (pyNext (.ref I)) Q E s := by
  generalize hr : x :: r = rest at h
  cases h with
  | list h1 h2 k1 k2 =>
    subst hr
    simp only [VRels] at h2
    obtain ⟨u, r', e, h3, h4⟩ := h2
    obtain ⟨e1, e2⟩ := drop_cons e
    refine wpAny_pyNext_list_item ⟨_, hI, k1, k2⟩ ⟨_, R.ifz _ _ h1, rfl, _, rfl⟩ (by rw [← Array.getElem?_toList]; exact e1) fun h' ⟨o', ho, c1, c2⟩ hs => q h' s.toks u o' hs ho (.list h1 (by rw [e2]; exact h4) c1 c2) h3
  | tup h1 h2 k1 k2 =>
    subst hr
    simp only [VRels] at h2
    obtain ⟨u, r', e, h3, h4⟩ := h2
    obtain ⟨e1, e2⟩ := drop_cons e
    refine wpAny_pyNext_tuple_item ⟨_, hI, k1, k2⟩ ⟨_, R.ifz _ _ h1, rfl, _, rfl⟩ (by rw [← Array.getElem?_toList]; exact e1) fun h' ⟨o', ho, c1, c2⟩ hs => q h' s.toks u o' hs ho (.tup h1 (by rw [e2]; exact h4) c1 c2) h3
  | range =>
    rename_i y n
    cases n with
    | zero => simp [intsL] at hr
    | succ n =>
      simp only [intsL, List.cons.injEq] at hr
      obtain ⟨rfl, rfl⟩ := hr
      refine wpAny_pyNext_range_item (x := y) (left := ((n + 1 : Nat) : Int)) (step := 1) hI (by omega) fun h' hi hs => ?_
      have e : (((n + 1 : Nat) : Int) - 1) = (n : Int) := by omega
      rw [e] at hi
      exact q h' _ _ _ hs hi .range (by simp [VRel])

/-- an object apart, kept while others work -/
def keepAt (kp : FH) (I : Addr) (o : Obj) : FH := fun b => if b = I then some o else kp b
structure Apart (X : SX) (env : Env) (fz kp : FH) (ρ : List Addr) (I : Addr) : Prop where
  fz : fz I = none
  kp : kp I = none
  ρ : I ∉ ρ
  tab : ∀ q ∈ X.tabs, q.2 ≠ I
  L : I ≠ env.locals

theorem Rel.put (R : Rel X env fz kp kg ρ st s) {I : Addr} {o : Obj} (a : Apart X env fz kp ρ I) (hI : s.heap.get? I = some o) : Rel X env fz (keepAt kp I o) kg ρ st s :=
  { R with
    ikp := fun b o' e => by
      unfold keepAt at e
      split at e
      · rename_i q; cases e; subst q; exact hI
      · exact R.ikp b o' e
    off := fun b hb => ⟨(R.off b hb).1, by unfold keepAt; rw [if_neg (fun q => by subst q; exact a.ρ hb)]; exact (R.off b hb).2.1, (R.off b hb).2.2⟩
    offT := fun q hq => ⟨(R.offT q hq).1, by unfold keepAt; rw [if_neg (a.tab q hq)]; exact (R.offT q hq).2⟩
    dis := fun b o' e => by
      unfold keepAt at e
      split at e
      · rename_i q; subst q; exact a.fz
      · exact R.dis b o' e
    offL := ⟨R.offL.1, by unfold keepAt; rw [if_neg (Ne.symm a.L)]; exact R.offL.2.1, R.offL.2.2⟩ }

theorem Rel.unput {I : Addr} {o : Obj} (R : Rel X env fz (keepAt kp I o) kg ρ st s) (h : kp I = none) : Rel X env fz kp kg ρ st s ∧ Apart X env fz kp ρ I ∧ s.heap.get? I = some o := by
  have hI : s.heap.get? I = some o := R.ikp I o (by simp [keepAt])
  have hρ : I ∉ ρ := fun q => by have := (R.off I q).2.1; simp [keepAt] at this
  have hL : I ≠ env.locals := fun q => by have := R.offL.2.1; rw [← q] at this; simp [keepAt] at this
  have ht : ∀ q ∈ X.tabs, q.2 ≠ I := fun q hq e => by have := (R.offT q hq).2; rw [e] at this; simp [keepAt] at this
  have sub : ∀ b, b ≠ I → keepAt kp I o b = kp b := fun b hb => by simp [keepAt, hb]
  refine ⟨{ R with ikp := fun b o' e => ?_, off := fun b hb => ⟨(R.off b hb).1, ?_, (R.off b hb).2.2⟩, offT := fun q hq => ⟨(R.offT q hq).1, ?_⟩, dis := fun b o' e => ?_, offL := ⟨R.offL.1, ?_, R.offL.2.2⟩ }, ⟨R.dis I o (by simp [keepAt]), h, hρ, ht, hL⟩, hI⟩
  · by_cases q : b = I
    · subst q; rw [h] at e; cases e
    · exact R.ikp b o' (by rw [sub b q]; exact e)
  · rw [← sub b (fun q => by subst q; exact hρ hb)]; exact (R.off b hb).2.1
  · rw [← sub q.2 (ht q hq)]; exact (R.offT q hq).2
  · by_cases q : b = I
    · subst q; rw [h] at e; cases e
    · exact R.dis b o' (by rw [sub b q]; exact e)
  · rw [← sub _ (Ne.symm hL)]; exact R.offL.2.1

theorem Rel.same (R : Rel X env fz kp kg ρ st s) {I : Addr} (a : Apart X env fz kp ρ I) {h' : Heap} {tk : Nat} (hs : Heap.SameBut I s.heap h') : Rel X env fz kp kg ρ st { s with heap := h', toks := tk } :=
  { R.toLRel.same (tk := tk) hs a.fz a.kp a.ρ a.tab with
    iloc := let ⟨m, hn, h⟩ := R.iloc; ⟨m, hn.sameBut hs (Ne.symm a.L), h⟩
    icell := R.icell
    offL := R.offL }
theorem LRel.ext (R : LRel X fz kp kg ρ led s) {I : Addr} (h1 : fz I = none) (h2 : kp I = none) (h3 : I ∉ ρ) (h4 : ∀ q ∈ X.tabs, q.2 ≠ I) {h' : Heap} {tk : Nat} (hs : Heap.ExtBut I s.heap h') : LRel X fz kp kg ρ led { s with heap := h', toks := tk } where
  base := ⟨R.base.os, R.base.bare⟩
  tb := fun q hq => let ⟨ps, e, t⟩ := R.tb q hq; ⟨ps, hs _ _ (h4 q hq) e, t⟩
  hb := R.hb
  ifz := fun b o e => hs b o (fun q => by subst q; rw [h1] at e; cases e) (R.ifz b o e)
  ikp := fun b o e => hs b o (fun q => by subst q; rw [h2] at e; cases e) (R.ikp b o e)
  ikg := R.ikg
  len := R.len
  ild := fun i b m e1 e2 => let ⟨o, e, h⟩ := R.ild i b m e1 e2; ⟨o, hs b o (fun q => by subst q; exact h3 (List.mem_of_getElem? e1)) e, h⟩
  nd := R.nd
  off := R.off
  offT := R.offT
  dis := R.dis
theorem Rel.ext (R : Rel X env fz kp kg ρ st s) {I : Addr} (a : Apart X env fz kp ρ I) {h' : Heap} {tk : Nat} (hs : Heap.ExtBut I s.heap h') : Rel X env fz kp kg ρ st { s with heap := h', toks := tk } :=
  { R.toLRel.ext (tk := tk) a.fz a.kp a.ρ a.tab hs with
    iloc := let ⟨m, hn, h⟩ := R.iloc; ⟨m, hn.extBut hs (Ne.symm a.L), h⟩
    icell := R.icell
    offL := R.offL }
theorem Apart.new (R : Rel X env fz kp kg ρ st s) {I : Addr} (h : s.heap.get? I = none) : Apart X env fz kp ρ I where
  fz := R.fz_none h
  kp := R.kp_none h
  ρ := R.notin h
  tab := fun q hq e => by
    obtain ⟨ps, e', _⟩ := R.tb q hq
    rw [e, h] at e'
    cases e'
  L := fun q => by
    obtain ⟨o, e⟩ := R.ns_some
    rw [← q, h] at e
    cases e

inductive ForE (X : SX) (env : Env) (d : Nat) (target : Expr) (body : List Stmt) : List MVal → St → MFlow → St → Prop
  | nil {a : St} : ForE X env d target body [] a .next a
  | next {x : MVal} {r : List MVal} {a b c e : St} {f g : MFlow} : StoreE X env d target x a b → ExL X env d body b f c → f = .next ∨ f = .cont → ForE X env d target body r c g e → ForE X env d target body (x :: r) a g e
  | brk {x : MVal} {r : List MVal} {a b c : St} : StoreE X env d target x a b → ExL X env d body b .brk c → ForE X env d target body (x :: r) a .next c
  | ret {x v : MVal} {r : List MVal} {a b c : St} : StoreE X env d target x a b → ExL X env d body b (.ret v) c → ForE X env d target body (x :: r) a (.ret v) c
  | weak {r : List MVal} {a a' e : St} {g : MFlow} : Sub a' a → ForE X env d target body r a' g e → ForE X env d target body r a g e

def plainTarget (t : Expr) : Bool := match t with
  | .Name .. => true
  | _ => false
theorem owned_plain {t : Expr} (h : plainTarget t = true) (it v : Value) : letOwnedTupleGo t it v = pure () := by
  cases t <;> first | rfl | exact absurd h Bool.false_ne_true
/-- what is handed on is not one of the iterators' own tuples -/
theorem owned_go {fz : FH} {ρ : List Addr} {t : Expr} {I : Addr} {o : Obj} {rest : List MVal} (hI : s.heap.get? I = some o) (h : IterRel fz ρ rest o) {v : Value} {Q : Unit → Shared → Prop} {E : Value → Shared → Prop} (q : Q () s) :
    wpAny (model X.prog X.w) A (letOwnedTupleGo t (.ref I) v) Q E s := by
  unfold letOwnedTupleGo
  split
  all_goals first
    | exact wpAny_pure q
    | (cases v
       case ref a =>
         refine wpAny_bind (wpAny_load hI ?_)
         cases h with
         | list h1 h2 h3 h4 =>
           rw [h3, h4]
           exact wpAny_pure q
         | tup h1 h2 h3 h4 =>
           rw [h3, h4]
           exact wpAny_pure q
         | range => exact wpAny_pure q
       all_goals exact wpAny_pure q)

theorem ForE.code {target : Expr} {body : List Stmt} {xs : List MVal} {f : MFlow} (h : ForE X env d target body xs st f st') : ∀ {A fz kp kg ρ s I o} (R : Result → Shared → Prop), AOk A d → Rel X env fz kp kg ρ st s → Apart X env fz kp ρ I → s.heap.get? I = some o → IterRel fz ρ xs o →
    (∀ fz' ρ' g s', Rel X env fz' kp kg ρ' st' s' → Grow fz ρ fz' ρ' → FRel fz' ρ' f g → R (.ok g) s') → codeAny (model X.prog X.w) A (.forLoop target (.ref I) body [] env) R s := by
  have hq : ∀ it, (Code.forLoop target it body [] env).quiet = true := fun it => rfl
  induction h with
  | nil =>
    intro A fz kp kg ρ s I o Rz ok R a hI hit q
    refine codeAny_of_tree ?_
    rw [Around.under_of_weight (by rfl) (by rfl)]
    show wpAny _ _ ((forTurn target (.ref I) body [] env).onRaise _) _ _ s
    refine wpAny_onRaise ?_
    simp only [forTurn]
    refine wpAny_bind (wpAny_standAt (wpAny_bind (wpAny_onRaise (next_nil ok.h R.toLRel hI hit fun h' hx => ?_))))
    refine wpAny_pure (And.intro rfl ?_)
    refine codeAny_of_tree ?_
    rw [Around.under_of_weight (by rfl) (by rfl)]
    show wpAny _ _ (do return Fin.done (← (execs [] env).onRaise _)) _ _ _
    refine wpAny_bind (wpAny_onRaise (wpAny_execs_nil (wpAny_pure ?_)))
    exact q _ _ _ _ (R.ext (tk := s.toks) a hx) (.refl _ _) rfl
  | weak hs h ih => exact fun Rz ok R a hI hit q => ih Rz ok (R.sub hs) a hI hit q
  | next h1 h2 hf h3 ih =>
    intro A fz kp kg ρ s I o Rz ok R a hI hit q
    refine codeAny_of_tree ?_
    rw [Around.under_of_weight (by rfl) (by rfl)]
    show wpAny _ _ ((forTurn target (.ref I) body [] env).onRaise _) _ _ s
    refine wpAny_onRaise ?_
    simp only [forTurn]
    refine wpAny_bind (wpAny_standAt (wpAny_bind (wpAny_onRaise (next_cons R.toLRel hI hit fun h' tk u o' hs ho hit' hu => ?_))))
    refine wpAny_bind (owned_go (s := { s with heap := h', toks := tk }) ho hit' ?_)
    have R₁ := (R.same (tk := tk) a hs).put a ho
    refine wpAny_bind (h1 A fz _ kg ρ _ u ok R₁ hu _ _ fun fz₂ ρ₂ _ s₂ R₂ g₂ _ => ?_)
    refine wpAny_bind (h2 A fz₂ _ kg ρ₂ s₂ ok R₂ _ _ fun fz₃ ρ₃ fl s₃ R₃ g₃ hfl => ?_)
    obtain ⟨R₄, a₄, hI₄⟩ := R₃.unput a.kp
    have fin : codeAny (model X.prog X.w) A (.forLoop target (.ref I) body [] env) Rz s₃ := ih Rz ok R₄ a₄ hI₄ (hit'.grow (g₂.trans g₃)) fun fz' ρ' g s' R' g' hg => q _ _ _ _ R' ((g₂.trans g₃).trans g') hg
    rcases hf with rfl | rfl
    · have e : fl = .next := hfl
      subst e
      exact wpAny_pure ⟨rfl, fin⟩
    · have e : fl = .cont := hfl
      subst e
      exact wpAny_pure ⟨rfl, fin⟩
  | brk h1 h2 =>
    intro A fz kp kg ρ s I o Rz ok R a hI hit q
    refine codeAny_of_tree ?_
    rw [Around.under_of_weight (by rfl) (by rfl)]
    show wpAny _ _ ((forTurn target (.ref I) body [] env).onRaise _) _ _ s
    refine wpAny_onRaise ?_
    simp only [forTurn]
    refine wpAny_bind (wpAny_standAt (wpAny_bind (wpAny_onRaise (next_cons R.toLRel hI hit fun h' tk u o' hs ho hit' hu => ?_))))
    refine wpAny_bind (owned_go (s := { s with heap := h', toks := tk }) ho hit' ?_)
    have R₁ := (R.same (tk := tk) a hs).put a ho
    refine wpAny_bind (h1 A fz _ kg ρ _ u ok R₁ hu _ _ fun fz₂ ρ₂ _ s₂ R₂ g₂ _ => ?_)
    refine wpAny_bind (h2 A fz₂ _ kg ρ₂ s₂ ok R₂ _ _ fun fz₃ ρ₃ fl s₃ R₃ g₃ hfl => ?_)
    obtain ⟨R₄, a₄, hI₄⟩ := R₃.unput a.kp
    have e : fl = .brk := hfl
    subst e
    exact wpAny_pure (q _ _ _ _ R₄ (g₂.trans g₃) rfl)
  | ret h1 h2 =>
    intro A fz kp kg ρ s I o Rz ok R a hI hit q
    refine codeAny_of_tree ?_
    rw [Around.under_of_weight (by rfl) (by rfl)]
    show wpAny _ _ ((forTurn target (.ref I) body [] env).onRaise _) _ _ s
    refine wpAny_onRaise ?_
    simp only [forTurn]
    refine wpAny_bind (wpAny_standAt (wpAny_bind (wpAny_onRaise (next_cons R.toLRel hI hit fun h' tk u o' hs ho hit' hu => ?_))))
    refine wpAny_bind (owned_go (s := { s with heap := h', toks := tk }) ho hit' ?_)
    have R₁ := (R.same (tk := tk) a hs).put a ho
    refine wpAny_bind (h1 A fz _ kg ρ _ u ok R₁ hu _ _ fun fz₂ ρ₂ _ s₂ R₂ g₂ _ => ?_)
    refine wpAny_bind (h2 A fz₂ _ kg ρ₂ s₂ ok R₂ _ _ fun fz₃ ρ₃ fl s₃ R₃ g₃ hfl => ?_)
    obtain ⟨R₄, a₄, hI₄⟩ := R₃.unput a.kp
    obtain ⟨w, rfl, hw⟩ := hfl
    exact wpAny_pure (q _ _ _ _ R₄ (g₂.trans g₃) ⟨w, rfl, hw⟩)

/-- what a value gives when it is gone through -/
def IterE (X : SX) (env : Env) (d : Nat) (v : MVal) (xs : List MVal) (st : St) : Prop :=
  ∀ A fz kp kg ρ s u (Q : Value → Shared → Prop) (E : Value → Shared → Prop), AOk A d → Rel X env fz kp kg ρ st s → VRel fz ρ v u →
    (∀ I o h' tk, s.heap.get? I = none → (∀ b o', s.heap.get? b = some o' → h'.get? b = some o') → h'.get? I = some o → IterRel fz ρ xs o → Q (.ref I) { s with heap := h', toks := tk }) → wpAny (model X.prog X.w) A (pyIter u) Q E s
theorem IterE.lst {vs : List MVal} : IterE X env d (.lst vs) vs st := fun A fz kp kg ρ s u Q E ok R h q => by
  simp only [VRel] at h
  obtain ⟨a, arr, ep, rfl, h1, h2⟩ := h
  exact wpAny_pyIter_list ⟨_, R.ifz _ _ h1, rfl, _, rfl⟩ (q _ _ _ s.toks none_of_size (fun _ _ e => Heap.get?_push_of_some _ e) (Heap.get?_push_size _ rfl) (.list (i := 0) h1 (by simpa using h2) rfl rfl))
theorem IterE.tup {vs : List MVal} : IterE X env d (.tup vs) vs st := fun A fz kp kg ρ s u Q E ok R h q => by
  simp only [VRel] at h
  obtain ⟨a, arr, rfl, h1, h2⟩ := h
  exact wpAny_pyIter_tuple ⟨_, R.ifz _ _ h1, rfl, _, rfl⟩ (q _ _ _ s.toks none_of_size (fun _ _ e => Heap.get?_push_of_some _ e) (Heap.get?_push_size _ rfl) (.tup (i := 0) h1 (by simpa using h2) rfl rfl))

theorem ExS.for {target iter body pos v xs f} (h1 : EvE X env d iter st v st₁) (h2 : IterE X env d v xs st₁) (h3 : ForE X env d target body xs st₁ f st') (hs : ∀ x, foldedSetIterable iter env x = pure x := by intro _; rfl) :
    ExS X env d (.For target iter body [] pos) st f st' :=
  fun A fz kp kg ρ s ok R Q E q => wpAny_For (h1 A fz kp kg ρ s ok R _ _ fun fz₁ ρ₁ va s₁ R₁ g₁ r₁ => h2 A fz₁ kp kg ρ₁ s₁ va _ _ ok R₁ r₁ fun I o h' tk hn hk hI hit => by
    refine h3.code _ ok (R₁.keep (tk := tk) hk) (Apart.new R₁ hn) hI hit fun fz' ρ' g s' R' g' hg => ?_
    exact q _ _ _ _ R' (g₁.trans g') hg) hs
end
end Mine
end
section
open PySem PySem.W PySem.Calls PyProof.Rows
set_option linter.all false
set_option maxRecDepth 100000
namespace Mine

def cellNames : List (Str × NameKind) → List Str
  | [] => []
  | (x, k) :: r => if k == .cell then x :: cellNames r else cellNames r

theorem cellsFrom_other : ∀ (names : List (Str × NameKind)) (n : Nat) (acc : List (Str × Addr)) (x : Str), x ∉ cellNames names → (cellsFrom n names acc).lookup x = acc.lookup x
  | [], _, _, _, _ => rfl
  | (y, k) :: r, n, acc, x, h => by
    unfold cellsFrom
    unfold cellNames at h
    cases hk : k == NameKind.cell with
    | true =>
      simp only [hk, if_true, List.mem_cons, not_or] at h ⊢
      rw [cellsFrom_other r (n + 1) _ x h.2, lookup_cons_ne h.1]
    | false =>
      simp only [hk, Bool.false_eq_true, if_false] at h ⊢
      exact cellsFrom_other r n acc x h
theorem cellsFrom_look : ∀ (names : List (Str × NameKind)) (n : Nat) (acc : List (Str × Addr)), (cellNames names).Nodup → ∀ (k : Nat) (x : Str), (cellNames names)[k]? = some x → (cellsFrom n names acc).lookup x = some (n + k)
  | [], _, _, _, k, x, h => by simp [cellNames] at h
  | (y, kd) :: r, n, acc, hn, k, x, h => by
    unfold cellsFrom
    unfold cellNames at h hn
    cases hk : kd == NameKind.cell with
    | true =>
      simp only [hk, if_true, List.nodup_cons] at h hn ⊢
      cases k with
      | zero =>
        simp at h; subst h
        rw [cellsFrom_other r (n + 1) _ y hn.1]
        simp [List.lookup_cons]
      | succ k =>
        have := cellsFrom_look r (n + 1) ((y, n) :: acc) hn.2 k x (by simpa using h)
        rw [this]; congr 1; omega
    | false =>
      simp only [hk, Bool.false_eq_true, if_false] at h hn ⊢
      exact cellsFrom_look r n acc hn k x h

/-- the cells of a frame in the ledger, from n on -/
def cellsAt : Nat → List Str → List (Str × Nat)
  | _, [] => []
  | n, x :: r => (x, n) :: cellsAt (n + 1) r
theorem cellsAt_look : ∀ (l : List Str) (n : Nat) (x : Str) (i : Nat), (cellsAt n l).lookup x = some i → ∃ k, l[k]? = some x ∧ i = n + k
  | [], n, x, i, h => by simp [cellsAt] at h
  | y :: r, n, x, i, h => by
    unfold cellsAt at h
    by_cases q : x = y
    · subst q; simp [List.lookup_cons] at h; exact ⟨0, by simp, by omega⟩
    · rw [lookup_cons_ne q] at h
      obtain ⟨k, h1, h2⟩ := cellsAt_look r (n + 1) x i h
      exact ⟨k + 1, by simpa using h1, by omega⟩

theorem bindL_other (ko : Str → Option NameKind) : ∀ (binds : List (Str × Value)) (m : Str → Option Value) (y : Str), y ∉ binds.map (·.1) → bindL ko binds m y = m y
  | [], m, y, _ => rfl
  | (n, v) :: r, m, y, h => by
    simp only [List.map_cons, List.mem_cons, not_or] at h
    unfold bindL
    rw [bindL_other ko r _ y h.2]
    split
    · simp [h.1]
    · rfl
theorem bindC_other (ko : Str → Option NameKind) : ∀ (binds : List (Str × Value)) (m : Str → Option Value) (y : Str), y ∉ binds.map (·.1) → bindC ko binds m y = m y
  | [], m, y, _ => rfl
  | (n, v) :: r, m, y, h => by
    simp only [List.map_cons, List.mem_cons, not_or] at h
    unfold bindC
    rw [bindC_other ko r _ y h.2]
    split
    · rfl
    · simp [h.1]
theorem bindL_mem (ko : Str → Option NameKind) : ∀ (binds : List (Str × Value)) (m : Str → Option Value) (y : Str) (v : Value), (binds.map (·.1)).Nodup → (y, v) ∈ binds → ko y = some .local → bindL ko binds m y = some v
  | (n, w) :: r, m, y, v, hn, hm, hk => by
    simp only [List.map_cons, List.nodup_cons] at hn
    unfold bindL
    rcases List.mem_cons.mp hm with e | hm
    · cases e
      rw [bindL_other ko r _ _ hn.1, if_pos hk]; simp
    · exact bindL_mem ko r _ y v hn.2 hm hk
theorem bindC_mem (ko : Str → Option NameKind) : ∀ (binds : List (Str × Value)) (m : Str → Option Value) (y : Str) (v : Value), (binds.map (·.1)).Nodup → (y, v) ∈ binds → ko y ≠ some .local → bindC ko binds m y = some v
  | (n, w) :: r, m, y, v, hn, hm, hk => by
    simp only [List.map_cons, List.nodup_cons] at hn
    unfold bindC
    rcases List.mem_cons.mp hm with e | hm
    · cases e
      rw [bindC_other ko r _ _ hn.1, if_neg hk]; simp
    · exact bindC_mem ko r _ y v hn.2 hm hk
theorem cellNames_mem {names : List (Str × NameKind)} {x : Str} : x ∈ cellNames names → (x, NameKind.cell) ∈ names := by
  induction names with
  | nil => intro h; simp [cellNames] at h
  | cons p r ih =>
    obtain ⟨y, k⟩ := p
    intro h
    unfold cellNames at h
    split at h
    · rename_i hk
      have hk' : k = .cell := by simpa using hk
      subst hk'
      rcases List.mem_cons.mp h with rfl | h
      · exact List.mem_cons_self
      · exact List.mem_cons_of_mem _ (ih h)
    · exact List.mem_cons_of_mem _ (ih h)

section
variable {X : SX} {env : Env} {d : Nat} {st st' st₁ st₂ st₃ : St} {fz kp : FH} {kg : Nat → Option GenState} {ρ : List Addr} {led led' : List MObj} {s : Shared}

theorem LRel.lt (R : LRel X fz kp kg ρ led s) {a : Addr} (h : a ∈ ρ) : a < s.heap.objs.size := by
  obtain ⟨i, hi, rfl⟩ := List.getElem_of_mem h
  have hl : i < led.length := R.len ▸ hi
  obtain ⟨o, e, _⟩ := R.ild i ρ[i] led[i] (List.getElem?_eq_getElem hi) (List.getElem?_eq_getElem hl)
  exact Heap.lt_size e

theorem VRel.ext {fz : FH} {ρ : List Addr} {m : MVal} {v : Value} (t : List Addr) (h : VRel fz ρ m v) : VRel fz (ρ ++ t) m v := VRel.grow (fz := fz) (fz' := fz) ⟨fun _ _ e => e, t, rfl⟩ m v h
theorem grow_ext {fz : FH} {ρ t : List Addr} : Grow fz ρ fz (ρ ++ t) := ⟨fun _ _ e => e, t, rfl⟩

/-- new objects of the ledger: all of them above what was there -/
theorem LRel.add (R : LRel X fz kp kg ρ led s) {h' : Heap} {tk : Nat} {new : List Addr} {objs : List MObj} (hk : ∀ b o, s.heap.get? b = some o → h'.get? b = some o) (hl : new.length = objs.length) (hn : new.Nodup) (hf : ∀ a ∈ new, s.heap.get? a = none)
    (ho : ∀ (i : Nat) (a : Addr) (m : MObj), new[i]? = some a → objs[i]? = some m → ∃ o, h'.get? a = some o ∧ ORel fz (ρ ++ new) m o) : LRel X fz kp kg (ρ ++ new) (led ++ objs) { s with heap := h', toks := tk } where
  base := ⟨R.base.os, R.base.bare⟩
  tb := (R.keep (tk := tk) hk).tb
  hb := R.hb
  ifz := (R.keep (tk := tk) hk).ifz
  ikp := (R.keep (tk := tk) hk).ikp
  ikg := R.ikg
  len := by rw [List.length_append, List.length_append, R.len, hl]
  ild := fun i a m e1 e2 => by
    by_cases hi : i < ρ.length
    · rw [List.getElem?_append_left hi] at e1
      rw [List.getElem?_append_left (R.len ▸ hi)] at e2
      obtain ⟨o, e, h⟩ := R.ild i a m e1 e2
      exact ⟨o, hk _ _ e, ORel.grow grow_ext _ _ h⟩
    · rw [List.getElem?_append_right (by omega)] at e1
      rw [List.getElem?_append_right (by have := R.len; omega)] at e2
      rw [← R.len] at e2
      exact ho _ _ _ e1 e2
  nd := List.nodup_append.mpr ⟨R.nd, hn, fun a ha b hb e => by
    subst e
    exact R.notin (hf _ hb) ha⟩
  off := fun a ha => by
    rcases List.mem_append.mp ha with ha | ha
    · exact R.off a ha
    · refine ⟨R.fz_none (hf a ha), R.kp_none (hf a ha), fun q hq e => ?_⟩
      obtain ⟨ps, e', _⟩ := R.tb q hq
      rw [e, hf a ha] at e'; cases e'
  offT := R.offT
  dis := R.dis

/-- a call of a def of the top that has cells of its own -/
theorem CallsTo.fnC (XO : SXOk X) {f : Addr} {fd : FuncData} {b : List Stmt} {args : List MVal} {kw : List (Str × MVal)} {r : MVal} {bm : List (Str × MVal)} {fl : MFlow} (O : FnOk X f fd b) (hgen : fd.scope.isGenerator = false)
    (hbind : BindsTo' X fd args kw bm) (hcn : (cellNames fd.scope.names).Nodup) (hcl : ((cellNames fd.scope.names).all fun x => decide (fd.scope.names.lookup x = some .cell)) = true)
    (hkd : (bm.all fun x => decide (fd.scope.names.lookup x.1 = some .local) || (decide (fd.scope.names.lookup x.1 = some .cell) && (cellNames fd.scope.names).contains x.1)) = true) (hnd : (bm.map (·.1)).Nodup)
    (body : ∀ L a, ∃ st', ExL X (callEnvC fd L a) d b ⟨bm.filter fun x => decide (fd.scope.names.lookup x.1 = some .local), cellsAt led.length (cellNames fd.scope.names), led ++ (cellNames fd.scope.names).map fun x => .cell (bm.lookup x)⟩ fl st' ∧ st'.led = led') (hfl : flowRes fl = some r) :
    CallsTo X (d + 1) (.obj (.ref f)) args kw led r led' := by
  intro A fz kp kg ρ s fv vs kvs Rz ok R hf hv hk q
  simp only [VRel] at hf
  subst hf
  obtain ⟨oc, od, sl, hK⟩ := O.look
  have KI := R.kin XO
  have ho := KI _ _ hK
  obtain ⟨binds, hb1, hb2, hb3⟩ := hbind fz ρ vs kvs R.hb hv hk
  have hB : BindsTo s fd ⟨vs, kvs⟩ binds := kp_binds KI hb1
  have hnb : (binds.map (·.1)).Nodup := hb2 ▸ hnd
  refine codeAny_call_function (fd := fd) (body := b) ok.room ho rfl O.co hgen O.body (codeRec_of KI O.code) (hB _ _ _ _ ?_)
  rw [O.clos]
  have lookC : ∀ x ∈ cellNames fd.scope.names, fd.scope.names.lookup x = some .cell := fun x hx => of_decide_eq_true (List.all_eq_true.mp hcl x hx)
  refine wpAny_newFunctionEnv_cells O.kind (fun x hx => ?_) fun env he s' ic => ?_
  · have h1 : x.1 ∈ bm.map (·.1) := hb2 ▸ List.mem_map_of_mem hx
    obtain ⟨y, hy, e⟩ := List.mem_map.mp h1
    have h2 := List.all_eq_true.mp hkd y hy
    rw [e] at h2
    simp only [Bool.or_eq_true, Bool.and_eq_true, decide_eq_true_eq, List.contains_iff_mem] at h2
    rcases h2 with h2 | ⟨h2, h3⟩
    · exact .inl h2
    · refine .inr ⟨h2, ?_⟩
      obtain ⟨k, hk', ek⟩ := List.getElem_of_mem h3
      rw [cellsFrom_look _ _ _ hcn k x.1 (by rw [List.getElem?_eq_getElem hk', ek])]
      rfl
  have hE : env = callEnvC fd s.heap.objs.size f := he
  subst hE
  clear he
  obtain ⟨h₁, tk, rfl⟩ := ic.toInCall.same
  refine ⟨XO.nolimit.keeps fun b o e => ic.toInCall.keep b o (R.hbk b o e), codeAny_func ?_⟩
  have hcell := ic.cell
  have hns := ic.toInCall.ns
  have hkeep := ic.toInCall.keep
  have eko : (callEnvC fd s.heap.objs.size f).kindOf = fun x => fd.scope.names.lookup x := rfl
  have ecl : (callEnvC fd s.heap.objs.size f).cells = cellsFrom (s.heap.objs.size + 1) fd.scope.names [] := rfl
  have eL : (callEnvC fd s.heap.objs.size f).locals = s.heap.objs.size := rfl
  rw [eko] at hcell hns
  rw [ecl] at hcell
  rw [eL] at hns
  have hm : (cellNames fd.scope.names).length = ((List.range (cellNames fd.scope.names).length).map fun k => s.heap.objs.size + 1 + k).length := by simp
  have RL : LRel X fz kp kg (ρ ++ (List.range (cellNames fd.scope.names).length).map fun k => s.heap.objs.size + 1 + k) (led ++ (cellNames fd.scope.names).map fun x => .cell (bm.lookup x)) { s with heap := h₁, toks := tk } := by
    refine R.add hkeep (by simp) ?_ (fun a ha => ?_) fun i a m e1 e2 => ?_
    · exact List.pairwise_map.mpr (List.Pairwise.imp (fun h e => h (by simpa using e)) List.nodup_range)
    · obtain ⟨k, _, rfl⟩ := List.mem_map.mp ha
      exact Heap.get?_none_of_le (by omega)
    · rw [List.getElem?_map] at e1 e2
      obtain ⟨k, ek, rfl⟩ := Option.map_eq_some_iff.mp e1
      obtain ⟨x, ex, rfl⟩ := Option.map_eq_some_iff.mp e2
      obtain ⟨hk1, hk2⟩ := List.getElem?_eq_some_iff.mp ek
      have hk3 : i = k := by simpa using hk2
      subst hk3
      have hlk := cellsFrom_look fd.scope.names (s.heap.objs.size + 1) [] hcn i x ex
      obtain ⟨o, e3, e4⟩ := hcell x _ hlk
      refine ⟨o, e3, ?_⟩
      have hxc := lookC x (List.mem_of_getElem? ex)
      cases hb : bm.lookup x with
      | none =>
        have : x ∉ binds.map (·.1) := fun hx => by
          rw [hb2] at hx
          obtain ⟨y, hy, rfl⟩ := List.mem_map.mp hx
          rw [mem_lookup hnd hy] at hb
          cases hb
        rw [bindC_other _ _ _ _ this] at e4
        exact e4
      | some v =>
        obtain ⟨u, h1, h2⟩ := binds_rel hb2 hb3 (lookup_mem hb)
        rw [bindC_mem _ _ _ _ _ hnb h1 (by simp only [hxc]; decide)] at e4
        exact ⟨u, e4, VRel.ext _ h2⟩
  have RF : Rel X (callEnvC fd s.heap.objs.size f) fz kp kg (ρ ++ (List.range (cellNames fd.scope.names).length).map fun k => s.heap.objs.size + 1 + k)
      ⟨bm.filter fun x => decide (fd.scope.names.lookup x.1 = some .local), cellsAt led.length (cellNames fd.scope.names), led ++ (cellNames fd.scope.names).map fun x => .cell (bm.lookup x)⟩ { s with heap := h₁, toks := tk } :=
    { RL with
      iloc := ⟨_, hns, fun x v e => by
        have hmem := lookup_mem e
        obtain ⟨h1, h2⟩ := List.mem_filter.mp hmem
        obtain ⟨u, h3, h4⟩ := binds_rel hb2 hb3 h1
        exact ⟨u, bindL_mem _ _ _ _ _ hnb h3 (of_decide_eq_true h2), VRel.ext _ h4⟩⟩
      icell := fun x i e => by
        obtain ⟨k, h1, rfl⟩ := cellsAt_look _ _ _ _ e
        have hk' := (List.getElem?_eq_some_iff.mp h1).1
        refine ⟨s.heap.objs.size + 1 + k, ?_, cellsFrom_look _ _ _ hcn k x h1⟩
        rw [List.getElem?_append_right (by have := R.len; omega), List.getElem?_map]
        have : led.length + k - ρ.length = k := by have := R.len; omega
        rw [this, List.getElem?_range hk']
        rfl
      offL := by
        rw [eL]
        refine ⟨R.fz_none none_of_size, R.kp_none none_of_size, fun hm => ?_, fun q hq e => ?_⟩
        · rcases List.mem_append.mp hm with hm | hm
          · exact Nat.lt_irrefl _ (R.lt hm)
          · obtain ⟨k, _, e⟩ := List.mem_map.mp hm
            have e' : s.heap.objs.size + 1 + k = s.heap.objs.size := e
            omega
        · obtain ⟨ps, e', _⟩ := R.tb q hq
          rw [e, none_of_size] at e'; cases e' }
  obtain ⟨st', hbd, eled⟩ := body s.heap.objs.size f
  refine hbd (A.deeper _) fz kp kg _ _ (ok.deeper _) RF _ _ fun fz' ρ' fv s' R' g hfr => ?_
  have RL' := R'.toLRel
  rw [eled] at RL'
  have g' : Grow fz ρ fz' ρ' := (grow_ext).trans g
  cases fl with
  | ret v =>
    simp only [flowRes, Option.some.injEq] at hfl
    subst hfl
    obtain ⟨u, rfl, hu⟩ := hfr
    exact q _ _ _ _ RL' g' hu
  | next =>
    simp only [flowRes, Option.some.injEq] at hfl
    subst hfl
    have e : fv = .next := hfr
    subst e
    exact q _ _ _ _ RL' g' (by simp [VRel])
  | brk => cases hfl
  | cont => cases hfl
end
end Mine
end
section
open PySem PySem.W PySem.Calls PyProof.Rows
set_option linter.all false
set_option maxRecDepth 100000
namespace Mine

theorem codeAmong_app (pos : Pos) (m : List Value) : ∀ (l : List Value) (v : Value), TriplesOk l → codeAmong pos (l ++ m) = some v → codeAmong pos l = some v ∨ codeAmong pos m = some v
  | [], v, _, h => .inr h
  | .int a t :: .int b u :: x :: r, v, ht, h => by
    have ht' : TriplesOk r := ht
    simp only [List.cons_append, codeAmong] at h ⊢
    split at h
    · rename_i hc
      rw [if_pos hc]; exact .inl h
    · rename_i hc
      rw [if_neg hc]
      exact codeAmong_app pos m r v ht' h
theorem triples_app : ∀ (l : List Value), TriplesOk l → ∀ (pos : Pos) (c : Value), TriplesOk (l ++ [rawInt pos.line, rawInt pos.col, c])
  | [], _, pos, c => trivial
  | .int a t :: .int b u :: x :: r, ht, pos, c => triples_app r ht pos c

def closL (cells : List (Str × Addr)) : List (Str × NameKind) → List (Str × Addr) → Option (List (Str × Addr))
  | [], acc => some acc
  | (n, k) :: r, acc => if k == .free then (cells.lookup n).bind fun a => closL cells r ((n, a) :: acc) else closL cells r acc
def csOf (cells : List (Str × Nat)) : List (Str × NameKind) → List (Str × Nat) → Option (List (Str × Nat))
  | [], acc => some acc
  | (n, k) :: r, acc => if k == .free then (cells.lookup n).bind fun a => csOf cells r ((n, a) :: acc) else csOf cells r acc

theorem closL_forIn {env : Env} : ∀ (names : List (Str × NameKind)) (acc cl : List (Str × Addr)), closL env.cells names acc = some cl →
    (forIn names acc fun (x : Str × NameKind) (r : List (Str × Addr)) => if (x.2 == NameKind.free) = true then (do let a ← cellOf env x.1; pure (ForInStep.yield ((x.1, a) :: r))) else (pure (ForInStep.yield r) : Sem _)) = pure cl
  | [], acc, cl, h => by simp only [closL, Option.some.injEq] at h; subst h; rfl
  | (n, k) :: r, acc, cl, h => by
    rw [List.forIn_cons]
    unfold closL at h
    cases hk : k == NameKind.free with
    | true =>
      simp only [hk, if_true] at h ⊢
      obtain ⟨a, ha, h⟩ := Option.bind_eq_some_iff.mp h
      have e : cellOf env n = pure a := by unfold cellOf; rw [ha]
      rw [e]
      simp only [pure_bind]
      exact closL_forIn r _ cl h
    | false =>
      simp only [hk, Bool.false_eq_true, if_false, pure_bind] at h ⊢
      exact closL_forIn r _ cl h
theorem closureFor_is {env : Env} {scope : Scope} {cl : List (Str × Addr)} (h : closL env.cells scope.names [] = some cl) : closureFor scope env = pure cl := by
  have := closL_forIn scope.names [] cl h
  unfold closureFor
  simp only [bind_pure_comp] at this ⊢
  first
    | exact this
    | (rw [← this]; congr 1; funext x r; split <;> rfl)
    | (simp only [this]; rfl)

section
variable {X : SX} {env : Env} {d : Nat} {st st' st₁ st₂ st₃ : St} {fz kp : FH} {kg : Nat → Option GenState} {ρ : List Addr} {led led' : List MObj} {s : Shared}

theorem Rel.clos (R : Rel X env fz kp kg ρ st s) : ∀ (names : List (Str × NameKind)) (acc : List (Str × Nat)) (acc' : List (Str × Addr)) (cs : List (Str × Nat)), CRel ρ acc acc' → csOf st.cells names acc = some cs → ∃ cl, closL env.cells names acc' = some cl ∧ CRel ρ cs cl
  | [], acc, acc', cs, h, e => by simp only [csOf, Option.some.injEq] at e; subst e; exact ⟨_, rfl, h⟩
  | (n, k) :: r, acc, acc', cs, h, e => by
    unfold csOf at e
    unfold closL
    cases hk : k == NameKind.free with
    | true =>
      simp only [hk, if_true] at e ⊢
      obtain ⟨i, hi, e⟩ := Option.bind_eq_some_iff.mp e
      obtain ⟨a, h1, h2⟩ := R.icell n i hi
      rw [h2]
      exact R.clos r ((n, i) :: acc) ((n, a) :: acc') cs (show CRel ρ ((n, i) :: acc) ((n, a) :: acc') from ⟨a, acc', rfl, h1, h⟩) e
    | false =>
      simp only [hk, Bool.false_eq_true, if_false] at e ⊢
      exact R.clos r acc acc' cs h e

theorem LRel.tab (R : LRel X fz kp kg ρ led s) {q : Addr × Addr} (hq : q ∈ X.tabs) {h' : Heap} {tk : Nat} {c' : Addr} {oc : Obj} {ps' : Array Value} (hx : Heap.ExtBut q.2 s.heap h') (hn : s.heap.get? c' = none) (hc : h'.get? c' = some oc)
    (hP : h'.get? q.2 = some (tabObj ps')) (ht : TriplesOk ps'.toList) (htr : TabRel X (Mine.upd fz c' oc) q.2 ps') : LRel X (Mine.upd fz c' oc) kp kg ρ led { s with heap := h', toks := tk } where
  base := ⟨R.base.os, R.base.bare⟩
  tb := fun r hr => by
    by_cases e : r.2 = q.2
    · rw [e]; exact ⟨ps', hP, ht, htr⟩
    · obtain ⟨ps, e1, e2, e3⟩ := R.tb r hr
      exact ⟨ps, hx _ _ e e1, e2, e3.grow (grow_upd (ρ := ρ) (R.fz_none hn)).1⟩
  hb := fun b o e => by
    rw [upd_ne (fun q => by subst q; rw [R.ifz _ _ (R.hb _ _ e)] at hn; cases hn)]; exact R.hb b o e
  ifz := fun b o e => by
    by_cases hb : b = c'
    · subst hb; rw [upd_self] at e; cases e; exact hc
    · rw [upd_ne hb] at e
      refine hx _ _ (fun h => ?_) (R.ifz b o e)
      rw [h, (R.offT q hq).1] at e; cases e
  ikp := fun b o e => hx _ _ (fun h => by rw [h, (R.offT q hq).2] at e; cases e) (R.ikp b o e)
  ikg := R.ikg
  len := R.len
  ild := fun i a m e1 e2 => by
    obtain ⟨o, e, h⟩ := R.ild i a m e1 e2
    exact ⟨o, hx _ _ (fun h => (R.off a (List.mem_of_getElem? e1)).2.2 q hq h.symm) e, ORel.grow (grow_upd (R.fz_none hn)) _ _ h⟩
  nd := R.nd
  off := fun b hb => ⟨by rw [upd_ne (a := c') (b := b) (fun q => by subst q; exact R.notin hn hb)]; exact (R.off b hb).1, (R.off b hb).2⟩
  offT := fun r hr => ⟨by
    rw [upd_ne (fun e => by
      obtain ⟨ps, e', _⟩ := R.tb r hr
      rw [e, hn] at e'; cases e')]
    exact (R.offT r hr).1, (R.offT r hr).2⟩
  dis := fun b o' e => by
    rw [upd_ne (fun q => by subst q; have := R.ikp _ _ e; rw [hn] at this; cases this)]; exact R.dis b o' e

theorem Rel.tab (R : Rel X env fz kp kg ρ st s) {q : Addr × Addr} (hq : q ∈ X.tabs) {h' : Heap} {tk : Nat} {c' : Addr} {oc : Obj} {ps' : Array Value} (hx : Heap.ExtBut q.2 s.heap h') (hn : s.heap.get? c' = none) (hc : h'.get? c' = some oc)
    (hP : h'.get? q.2 = some (tabObj ps')) (ht : TriplesOk ps'.toList) (htr : TabRel X (Mine.upd fz c' oc) q.2 ps') : Rel X env (Mine.upd fz c' oc) kp kg ρ st { s with heap := h', toks := tk } :=
  { R.toLRel.tab (tk := tk) hq hx hn hc hP ht htr with
    iloc := let ⟨m, hns, h⟩ := R.iloc; ⟨m, hns.extBut hx (fun e => R.offL.2.2.2 q hq e.symm), fun x v e => let ⟨u, e', r⟩ := h x v e; ⟨u, e', VRel.grow (grow_upd (R.fz_none hn)) _ _ r⟩⟩
    icell := R.icell
    offL := ⟨by rw [upd_ne (fun q => by obtain ⟨o, e⟩ := R.ns_some; rw [q, hn] at e; cases e)]; exact R.offL.1, R.offL.2⟩ }

/-- a def within a def -/
theorem ExS.defn (XO : SXOk X) {name qual : Str} {params : Arguments} {body : List Stmt} {scope : Scope} {pos : Pos} {c P : Addr} {cs : List (Str × Nat)} (hg : env.globals = mainGlobals) (hcode : env.code = .ref c) (hq : (c, P) ∈ X.tabs) (hqn : X.qn P pos.line pos.col = qual)
    (hqu : qualnameIn env name name = qual) (hcs : csOf st.cells scope.names [] = some cs) (hb : BindE X env d name (.clo ⟨name, qual, params, body, scope⟩ cs) st st')
    (hd0 : params.defaults = [] := by rfl) (hk0 : params.kw_defaults = [] := by rfl) (ha : annTrees params none env = [] := by rfl) :
    ExS X env d (.FunctionDef name params body [] none [] scope none name pos) st .next st' :=
  fun A fz kp kg ρ s ok R Q E q => by
    obtain ⟨cl, e1, hcr⟩ := R.clos scope.names [] [] cs rfl hcs
    obtain ⟨bm, ob, b1, b2, b3, b4, b5, b6⟩ := XO.bmain
    obtain ⟨ps, hP, ht, htr⟩ := R.tb (c, P) hq
    have hgs : s.heap.Ns mainGlobals X.mg := XO.g.keeps R.hbk
    have hgP : mainGlobals ≠ P := fun q => by
      obtain ⟨o, es, ep, e, hd, _⟩ := hgs
      rw [q, hP] at e; cases e; cases hd
    have hbP : bm ≠ P := fun q => by
      have e := R.hbk _ _ b3
      rw [q, hP] at e; cases e; cases b4
    have hbG : bm ≠ mainGlobals := fun q => by
      obtain ⟨o, es, ep, e, hd, _⟩ := XO.g
      rw [q, e] at b3; cases b3; rw [hd] at b6; cases b6
    have BA : s.heap.BuiltinsAt X.mg P := ⟨bm, ob, b1, b2, hbG, hbP, R.hbk _ _ b3, b4, b5, b6⟩
    have C : CodeHd s.heap c P := (XO.hd _ hq).keeps R.hbk
    have hcl := closureFor_is e1
    refine nestDef_K hd0 hk0 ha ?_
    rw [hqu]
    cases hf : codeAmong pos ps.toList with
    | some cv =>
      refine makeFunction_hit (mg := X.mg) hcl hg hgs hcode C hP ht hf BA fun ctv doc h' tk hk hsz => ?_
      obtain ⟨c', oc, vs, t, rfl, f1, f2, f3⟩ := htr pos cv hf
      have hn : s.heap.get? h'.objs.size = none := Heap.get?_none_of_le hsz
      have R₁ := R.keep (tk := tk) hk
      have hn₁ : ({ s with heap := h', toks := tk } : Shared).heap.get? h'.objs.size = none := none_of_size
      have R₂ := R₁.new (h' := h'.push (fnMade name qual params body scope cl doc ((X.mg "__name__").getD .none) c' ctv)) (tk := tk) hn₁ (fun _ _ e => Heap.get?_push_of_some _ e) (Heap.get?_push_size _ rfl)
      have g₂ : Grow fz ρ _ ρ := grow_upd (o := fnMade name qual params body scope cl doc ((X.mg "__name__").getD .none) c' ctv) (R₁.fz_none hn₁)
      refine hb A _ kp kg ρ _ _ ok R₂ ?_ _ _ fun fz₃ ρ₃ _ s₃ R₃ g₃ _ => q _ _ _ _ R₃ (g₂.trans g₃) rfl
      simp only [VRel]
      refine ⟨_, cl, doc, _, c', ctv, oc, vs, t, rfl, upd_self .., hcr, g₂.1 _ _ f1, f2, ?_⟩
      rw [← hqn]; exact f3
    | none =>
      refine makeFunction_K (mg := X.mg) hcl hg hgs hcode C hP ht hf hgP BA fun c' ctv doc h' tk hx hge hlt hrec htb => ?_
      obtain ⟨c₂, oc, vs, t, ee, f1, f2, f3⟩ := hrec
      cases ee
      have hnc : s.heap.get? c' = none := Heap.get?_none_of_le hge
      have g₁ : Grow fz ρ (upd fz c' oc) ρ := grow_upd (R.fz_none hnc)
      have R₁ := R.tab (tk := tk) hq hx hnc f1 htb (by
        rw [Array.toList_append]; exact triples_app _ ht _ _) (fun pos' cv e => by
        rw [Array.toList_append] at e
        rcases codeAmong_app pos' _ _ _ ht e with e | e
        · obtain ⟨c₃, oc₃, vs₃, t₃, k1, k2, k3⟩ := htr pos' cv e
          exact ⟨c₃, oc₃, vs₃, t₃, k1, g₁.1 _ _ k2, k3⟩
        · simp only [codeAmong, rawInt] at e
          split at e
          · rename_i hc
            cases e
            simp only [Bool.and_eq_true, beq_iff_eq, Int.natCast_inj] at hc
            refine ⟨c', oc, vs, t, rfl, upd_self .., f2, ?_⟩
            rw [← hc.1, ← hc.2, hqn]; exact f3
          · cases e)
      have hn₁ : ({ s with heap := h', toks := tk } : Shared).heap.get? h'.objs.size = none := none_of_size
      have R₂ := R₁.new (h' := h'.push (fnMade name qual params body scope cl doc ((X.mg "__name__").getD .none) c' ctv)) (tk := tk) hn₁ (fun _ _ e => Heap.get?_push_of_some _ e) (Heap.get?_push_size _ rfl)
      have g₂ : Grow (upd fz c' oc) ρ _ ρ := grow_upd (o := fnMade name qual params body scope cl doc ((X.mg "__name__").getD .none) c' ctv) (R₁.fz_none hn₁)
      refine hb A _ kp kg ρ _ _ ok R₂ ?_ _ _ fun fz₃ ρ₃ _ s₃ R₃ g₃ _ => q _ _ _ _ R₃ ((g₁.trans g₂).trans g₃) rfl
      simp only [VRel]
      exact ⟨_, cl, doc, _, c', ctv, oc, vs, t, rfl, upd_self .., hcr, g₂.1 _ _ (upd_self ..), f2, f3⟩
end
end Mine
end
section
open PySem PySem.W PySem.Calls PyProof.Rows
set_option linter.all false
set_option maxRecDepth 100000
namespace Mine

theorem DRel.find {fz : FH} {ρ : List Addr} {name : Str} : ∀ {ds : List (Str × MVal)} {es : List DictEntry} {v : MVal}, DRel fz ρ ds es → ds.lookup name = some v → ∃ u, getL name es = some (some u) ∧ VRel fz ρ v u
  | (k, w) :: r, _, v, ⟨h, t, u, es, e, h1, h2⟩, hl => by
    subst e
    by_cases q : name = k
    · subst q
      simp [List.lookup_cons] at hl
      subst hl
      refine ⟨u, ?_, h1⟩
      unfold getL
      rw [List.find?_cons]
      simp [Value.isStr]
    · rw [lookup_cons_ne q] at hl
      obtain ⟨u', e1, e2⟩ := DRel.find h2 hl
      refine ⟨u', ?_, e2⟩
      unfold getL at e1 ⊢
      have hk : Value.isStr (.str k t) name = false := by
        show (k == name) = false
        simpa using fun e => q e.symm
      rw [List.find?_cons]
      simp only [hk]
      split at e1
      · rename_i x hx; rw [hx]; exact e1
      · rename_i hx; split at e1 <;> cases e1
theorem DRel.noRef {fz : FH} {ρ : List Addr} : ∀ {ds : List (Str × MVal)} {es : List DictEntry}, DRel fz ρ ds es → es.any (·.refKey) = false
  | [], _, h => by
    have e : _ = [] := h
    subst e; rfl
  | (k, w) :: r, _, ⟨h, t, u, es, e, h1, h2⟩ => by
    subst e
    rw [List.any_cons, DRel.noRef h2]
    rfl
theorem DRel.miss {fz : FH} {ρ : List Addr} {name : Str} {ds : List (Str × MVal)} {es : List DictEntry} (h : DRel fz ρ ds es) (hl : ds.lookup name = none) : getL name es = some none := by
  have hf : ∀ {ds : List (Str × MVal)} {es : List DictEntry}, DRel fz ρ ds es → ds.lookup name = none → es.find? (·.key.isStr name) = none := by
    intro ds
    induction ds with
    | nil => intro es h _; have e : es = [] := h; subst e; rfl
    | cons p r ih =>
      obtain ⟨k, w⟩ := p
      rintro es ⟨h, t, u, es, e, h1, h2⟩ hl
      subst e
      by_cases q : name = k
      · subst q; simp [List.lookup_cons] at hl
      · rw [lookup_cons_ne q] at hl
        have hk : Value.isStr (.str k t) name = false := by
          show (k == name) = false
          simpa using fun e => q e.symm
        rw [List.find?_cons]
        simp only [hk]
        exact ih h2 hl
  unfold getL
  rw [hf h hl, h.noRef]
  rfl
theorem DRel.some_ {fz : FH} {ρ : List Addr} {name : Str} {ds : List (Str × MVal)} {es : List DictEntry} (h : DRel fz ρ ds es) : (getL name es).isSome = true := by
  cases hl : ds.lookup name with
  | none => rw [h.miss hl]; rfl
  | some v => obtain ⟨u, e, _⟩ := h.find hl; rw [e]; rfl
theorem DRel.put {fz : FH} {ρ : List Addr} {name : Str} {hs : Int} {tk : Tok} {v : MVal} {u : Value} (hv : VRel fz ρ v u) : ∀ {ds : List (Str × MVal)} {es : List DictEntry}, DRel fz ρ ds es → DRel fz ρ (setA name v ds) (putL name hs (.str name tk) u es)
  | [], _, h => by
    have e : _ = [] := h
    subst e
    exact ⟨hs, tk, u, [], rfl, hv, rfl⟩
  | (k, w) :: r, _, ⟨h, t, x, es, e, h1, h2⟩ => by
    subst e
    unfold setA putL
    by_cases q : k = name
    · subst q
      simp only [Value.isStr, beq_self_eq_true, if_true]
      exact ⟨h, t, u, es, rfl, hv, h2⟩
    · have hk : (k == name) = false := by simpa using q
      simp only [Value.isStr, hk, if_neg q, Bool.false_eq_true, if_false]
      exact ⟨h, t, x, _, rfl, h1, DRel.put hv h2⟩
theorem DRel.len {fz : FH} {ρ : List Addr} : ∀ {ds : List (Str × MVal)} {es : List DictEntry}, DRel fz ρ ds es → es.length = ds.length
  | [], _, h => by
    have e : _ = [] := h
    subst e; rfl
  | (k, w) :: r, _, ⟨h, t, u, es, e, h1, h2⟩ => by subst e; simp [h2.len]

section
variable {X : SX} {env : Env} {d : Nat} {st st' st₁ st₂ st₃ : St} {fz kp : FH} {kg : Nat → Option GenState} {ρ : List Addr} {led led' : List MObj} {s : Shared} {K : Frag} {C x : Addr} {A : Around}

/-- an made object whose own dict lies in the ledger -/
theorem ins_at (R : LRel X fz kp kg ρ led s) {i : Nat} {ds : List (Str × MVal)} {va : Value} (hi : led[i]? = some (.dct ds)) (h : VRel fz ρ (.insr C i) va) :
    ∃ a dx es ep, va = .ref a ∧ ρ[i]? = some dx ∧ InstAt s.heap a { cls := .ref C, dict := some dx } C (some (dictOf es ep)) ∧ s.heap.get? dx = some (dictOf es ep) ∧ DRel fz ρ ds es := by
  simp only [VRel] at h
  obtain ⟨a, dx, rfl, h1, h2⟩ := h
  obtain ⟨o, h3, es, ep, rfl, h4⟩ := R.ild i dx _ h2 hi
  have e : ({ cls := .type "dict", data := .dict es ep } : Obj) = dictOf es.toList ep := by simp [dictOf]
  rw [e] at h3
  exact ⟨a, dx, es.toList, ep, rfl, h2, ⟨R.ifz _ _ h1, rfl, rfl, h3⟩, h3, h4⟩

def GtE (X : SX) (env : Env) (d : Nat) (a : MVal) (name : Str) (st : St) (r : MVal) (st' : St) : Prop :=
  ∀ A fz kp kg ρ s va expr, AOk A d → Rel X env fz kp kg ρ st s → VRel fz ρ a va → WP X env A fz kp kg ρ (getAttr va name expr) st' (fun fz ρ v => VRel fz ρ r v) s

/-- what may be handed out of a dict as it is -/
def MVal.handed : MVal → Bool
  | .obj (.builtin i) => (withoutEnding? i "#data").isNone
  | _ => true
theorem handed_is {fz : FH} {ρ : List Addr} {v : MVal} {u : Value} (h : v.handed = true) (hv : VRel fz ρ v u) : handedIn u = true := by
  cases v <;> simp only [VRel] at hv
  case none => subst hv; rfl
  case bool => subst hv; rfl
  case int => obtain ⟨_, rfl⟩ := hv; rfl
  case str => obtain ⟨_, rfl⟩ := hv; rfl
  case tup => obtain ⟨_, _, rfl, _⟩ := hv; rfl
  case lst => obtain ⟨_, _, _, rfl, _⟩ := hv; rfl
  case dct => obtain ⟨_, _, _, rfl, _⟩ := hv; rfl
  case ref => obtain ⟨_, _, rfl⟩ := hv; rfl
  case bm => obtain ⟨_, _, rfl, _⟩ := hv; rfl
  case inst => obtain ⟨_, _, _, _, rfl, _⟩ := hv; rfl
  case rng => obtain ⟨_, _, _, _, rfl, _⟩ := hv; rfl
  case insr => obtain ⟨_, _, rfl, _⟩ := hv; rfl
  case clo => obtain ⟨_, _, _, _, _, _, _, _, _, rfl, _⟩ := hv; rfl
  case gen => obtain ⟨_, _, _, rfl, _⟩ := hv; rfl
  case fo => obtain ⟨_, _, rfl, _⟩ := hv; rfl
  case obj w =>
    subst hv
    cases u <;> first | rfl | exact h

/-- own attributes -/
theorem GtE.own (XO : SXOk X) {i : Nat} {ds : List (Str × MVal)} {name : Str} {v : MVal} {attr : Option Value} (hi : st.led[i]? = some (.dct ds)) (hl : ds.lookup name = some v)
    (hg : plainGet X.K C name = true) (hh : hasDictIn X.K C = true) (ha : findIn X.K (.ref C) name = some attr) (hn : noGet X.K attr = true) (hv : v.handed = true) : GtE X env d (.insr C i) name st v st :=
  fun A fz kp kg ρ s va expr ok R h Q E q => by
    obtain ⟨a, dx, es, ep, rfl, h1, I, h2, h3⟩ := ins_at R.toLRel hi h
    obtain ⟨u, e, hu⟩ := h3.find hl
    exact get_value (R.kin XO) I (plainGet_of hg).1 (findObj_own hh ha hn (by rw [lookIn_dict]; exact e)) (handed_is hv hu) (q _ _ _ _ (R.tk _) (.refl _ _) hu)
/-- attributes of the class -/
theorem GtE.cls (XO : SXOk X) {i : Nat} {ds : List (Str × MVal)} {name : Str} {v : Value} {r : MVal} (hi : st.led[i]? = some (.dct ds)) (hl : ds.lookup name = none)
    (hg : plainGet X.K C name = true) (hh : hasDictIn X.K C = true) (ha : findIn X.K (.ref C) name = some (some v)) (hn : specialIn X.K v "__get__" = some none) (hv : handedIn v = true) (hc : copiedNames.contains name = false)
    (hr : ∀ fz ρ, (∀ a o, X.hb.get? a = some o → fz a = some o) → VRel fz ρ r v) : GtE X env d (.insr C i) name st r st :=
  fun A fz kp kg ρ s va expr ok R h Q E q => by
    obtain ⟨a, dx, es, ep, rfl, h1, I, h2, h3⟩ := ins_at R.toLRel hi h
    exact get_value (R.kin XO) I (plainGet_of hg).1 (findObj_cls hh ha hn hv hc (by rw [lookIn_dict]; exact h3.miss hl)) hv (q _ _ _ _ (R.tk _) (.refl _ _) (hr _ _ R.hb))

theorem EvE.attr {value : Expr} {name : Str} {pos : Pos} {a r : MVal} (h1 : EvE X env d value st a st₁) (h2 : GtE X env d a name st₁ r st')
    (he : eval (.Attribute value name pos) env = (do
      let o ← eval value env
      standAt pos.atName
      let r ← holding [o] (getAttr o name true)
      letTemporaryGo value o r
      pure r) := by with_unfolding_all rfl) : EvE X env d (.Attribute value name pos) st r st' :=
  fun A fz kp kg ρ s ok R Q E q => Attribute_any_ (h1 A fz kp kg ρ s ok R _ _ fun fz₁ ρ₁ va s₁ R₁ g₁ r₁ => h2 A fz₁ kp kg ρ₁ s₁ va true ok R₁ r₁ _ _ fun fz₂ ρ₂ v s₂ R₂ g₂ r₂ => q _ _ _ _ R₂ (g₁.trans g₂) r₂) he

/-- what a method call calls -/
def MtE (X : SX) (env : Env) (d : Nat) (a : MVal) (name : Str) (st : St) (f : MVal) (first : List MVal) (st' : St) : Prop :=
  ∀ A fz kp kg ρ s va pl, AOk A d → Rel X env fz kp kg ρ st s → VRel fz ρ a va → WP X env A fz kp kg ρ (getMethod va name pl) st' (fun fz ρ p => VRel fz ρ f p.1 ∧ VRels fz ρ first p.2) s
theorem MtE.fn (XO : SXOk X) {i : Nat} {ds : List (Str × MVal)} {name : Str} {f : Addr} (hi : st.led[i]? = some (.dct ds)) (hl : ds.lookup name = none) (hg : plainGet X.K C name = true)
    (hf : findIn X.K (.ref C) name = some (some (.ref f))) (ht : isFn X.K (.ref f) = true) : MtE X env d (.insr C i) name st (.obj (.ref f)) [.insr C i] st :=
  fun A fz kp kg ρ s va pl ok R h Q E q => by
    obtain ⟨a, dx, es, ep, rfl, h1, I, h2, h3⟩ := ins_at R.toLRel hi h
    exact method_fn (R.kin XO) I (plainGet_of hg).1 (plainGet_of hg).2 hf (beq_iff_eq.mp ht) (by show (lookIn name (dictOf es ep)).map _ = _; rw [lookIn_dict, h3.miss hl]; rfl)
      (q _ _ _ _ R (.refl _ _) ⟨by simp [VRel], by simp only [VRels]; exact ⟨_, _, rfl, h, rfl⟩⟩)
theorem looks_special {M : Model} {h : Heap} {ox : Obj} {od : Option Obj} {name : Str} {r : Option Value} (X : K.In h) (I : InstAt h x ox C od) (e : findIn K (.ref C) name = some r) : Looks M h (specialOf (.ref x) name) r :=
  I.type.andThen (looks_findIn X e)
/-- a callable of the made object's own, its class knows nothing of that name -/
theorem MtE.own (XO : SXOk X) {i : Nat} {ds : List (Str × MVal)} {name : Str} {v : MVal} (hi : st.led[i]? = some (.dct ds)) (hl : ds.lookup name = some v)
    (hg : plainGet X.K C name = true) (hh : hasDictIn X.K C = true) (ha : findIn X.K (.ref C) name = some none) (hv : v.handed = true) : MtE X env d (.insr C i) name st v [] st :=
  fun A fz kp kg ρ s va pl ok R h Q E q => by
    obtain ⟨a, dx, es, ep, rfl, h1, I, h2, h3⟩ := ins_at R.toLRel hi h
    have XK := R.kin XO
    unfold getMethod
    refine wpAny_bind ((looks_special XK I (plainGet_of hg).1).here ?_)
    dsimp only
    have hc : (Manifest.canonical "object.__getattribute__" != "object.__getattribute__") = false := by kernel_rfl
    rw [hc]
    simp only [Bool.false_eq_true, if_false]
    refine wpAny_bind ((looks_special XK I (plainGet_of hg).2).here ?_)
    simp only [Option.isSome_none, Bool.false_eq_true, if_false]
    refine wpAny_bind ((looks_special XK I ha).here ?_)
    dsimp only
    refine wpAny_bind (GtE.own XO hi hl hg hh ha rfl hv A fz kp kg ρ s _ _ ok R h _ _ fun fz' ρ' v' s' R' g' hv' => wpAny_pure (q _ _ _ _ R' g' ⟨hv', by simp [VRels]⟩))

/-- a call in the form of a method -/
theorem EvE.meth {o : Expr} {name : Str} {apos pos : Pos} {args : List Expr} {kws : List Keyword} {a f : MVal} {first vs : List MVal} {kvs : List (Str × MVal)} {r : MVal}
    (ho : EvE X env d o st a st₁) (hm : MtE X env d a name st₁ f first st₁) (hk : KpE X f) {st₂ st₃ : St} (ha : EvL X env d pos args st₁ vs st₂) (hkw : EvA X env d pos kws st₂ kvs st₃) (happ : AppE X env d f (first ++ vs) kvs st₃ r st')
    (hbase : attributeBase o name env (eval o env) = eval o env := by rfl)
    (hfew : methodCallForm (args.length + kws.length) (backTo pos (starEach args env)) (backToKw pos (keywordEach kws env)) = true := by rfl) (hline : (apos.endLine == pos.line) = true := by rfl)
    (hst : (backTo pos (starEach args env)).any (·.1) = false := by rfl) (hall : (backToKw pos (keywordEach kws env)).all (·.1.isSome) = true := by rfl) (hkn : (backToKw pos (keywordEach kws env)).any (·.1.isNone) = false := by rfl) :
    EvE X env d (.Call (.Attribute o name apos) args kws pos) st r st' :=
  fun A fz kp kg ρ s ok R Q E q => by
    rw [arm_eval_Call, hbase]
    refine wpAny_bind (ho A fz kp kg ρ s ok R _ _ fun fz₁ ρ₁ va s₁ R₁ g₁ r₁ => wpAny_bind (wpAny_standAt ?_))
    have hpos : methodCallPos true o env apos pos = pure pos := by unfold methodCallPos; simp [hline]
    unfold methodCall
    rw [hfew]
    refine wpAny_bind (wpAny_holding (hm A fz₁ kp kg ρ₁ s₁ va _ ok R₁ r₁ _ _ fun fz₂ ρ₂ p s₂ R₂ g₂ r₂ => ?_))
    refine wpAny_bind (wpAny_of_eq hpos ?_)
    exact callWithE hk ha hkw happ hst hall hkn A fz₂ kp kg ρ₂ s₂ p.1 p.2 ok R₂ r₂.1 r₂.2 _ _ fun fz₃ ρ₃ v s₃ R₃ g₃ r₃ => q _ _ _ _ R₃ ((g₁.trans g₂).trans g₃) r₃

theorem Heap.upd_same {h : Heap} {a : Addr} {f : Obj → Obj} : Heap.SameBut a h (h.update a f) := ⟨Heap.size_update _ _ _, fun b hb => Heap.get?_update_ne _ _ _ _ hb⟩

/-- an attribute is stored -/
theorem osa_ledger {Rz : Result → Shared → Prop} {ox : Obj} {dx : Addr} {name : Str} {tk : Tok} {v : Value} {es : List DictEntry} {n : Nat} (X₀ : K.In s.heap) (I : InstAt s.heap x ox C (some (dictOf es n))) (hd : ox.dict = some dx) (hp : plainOver K C = true) (ht : takerIn K C name = some none) (hh : hasDictIn K C = true)
    (hl : (getL name es).isSome = true) (hz : (putL name (PyData.keyHash X.w.params name) (.str name s.toks) v es).length ≤ 1000)
    (h : ∀ h', Heap.SameBut dx s.heap h' → h'.get? dx = some (dictOf (putL name (PyData.keyHash X.w.params name) (.str name s.toks) v es) (putN name es n)) → Rz (.ok (.ret .none)) { s with heap := h', toks := s.toks + 1 }) :
    codeAny (model X.prog X.w) A (.call (.builtin "object.__setattr__") ⟨[.ref x, .str name tk, v], []⟩) Rz s := by
  refine osa_open X₀ I hp ht fun b => ?_
  obtain ⟨cd, hc, hd'⟩ := any_some hh
  obtain ⟨hx, hcl, hn, D⟩ := I
  obtain ⟨oc, odi, oda, osl⟩ := ox
  dsimp only at hcl hd D
  subst hcl hd
  dsimp only at D
  have D' : (s.heap.update dx (Obj.putName name (PyData.keyHash X.w.params name) (.str name s.toks) v)).get? dx = some (dictOf (putL name (PyData.keyHash X.w.params name) (.str name s.toks) v es) (putN name es n)) := by
    have := Heap.get?_update_self (Obj.putName name (PyData.keyHash X.w.params name) (.str name s.toks) v) D (by rw [putName_dict]; rfl)
    rw [putName_dict] at this
    exact this
  refine wpAny_bind (wpAny_pure (wpAny_bind (wpAny_bind (wpAny_loadPart hx (wpAny_bind ((looks_clsIn X₀ hc).here ?_))))))
  rw [hd']
  refine wpAny_pure (a := some dx) (wpAny_bind (wpAny_pure (wpAny_bind ?_)))
  unfold nsSet
  refine wpAny_bind (wpAny_bind (wpAny_askSetting (wpAny_pure (wpAny_bind (wpAny_mkText (wpAny_bind (wpAny_loadPart D ?_)))))))
  dsimp only
  have c : (!es.toArray.any (·.key.isStr name) && es.toArray.any (·.refKey)) = false := by
    rw [← Array.any_toList, ← Array.any_toList]
    unfold getL at hl
    split at hl
    · rename_i en he
      rw [List.any_eq_true.mpr ⟨en, List.mem_of_find?_eq_some he, List.find?_some he⟩]; rfl
    · split at hl
      · cases hl
      · rename_i z; rw [Bool.not_eq_true] at z; simp only [List.toList_toArray]; rw [z, Bool.and_false]
  rw [aRefKeyMayBeTheName_at, c]
  refine wpAny_updatePart D ?_
  refine wpAny_bind (wpAny_lookBehind D' (pastItsLine_dict (by rw [List.size_toArray, sizeLine_eq]; omega)) ?_)
  exact wpAny_pure (h _ Heap.upd_same D')

theorem setA_length (x : Str) (v : MVal) : ∀ l : List (Str × MVal), (setA x v l).length ≤ l.length + 1
  | [] => by simp [setA]
  | (y, u) :: r => by
    unfold setA
    split
    · simp
    · have := setA_length x v r
      simp only [List.length_cons]; omega

theorem StoreE.attr (XO : SXOk X) {o : Expr} {name : Str} {pos : Pos} {v : MVal} {i : Nat} {ds : List (Str × MVal)} (ho : EvE X env d o st (.insr C i) st₁) (hi : st₁.led[i]? = some (.dct ds)) (hz : ds.length < 900)
    (hs : findIn X.K (.ref C) "__setattr__" = some (some (.builtin "object.__setattr__"))) (hp : plainOver X.K C = true) (ht : takerIn X.K C name = some none) (hh : hasDictIn X.K C = true) :
    StoreE X env d (.Attribute o name pos) v st { st₁ with led := st₁.led.set i (.dct (setA name v ds)) } :=
  fun A fz kp kg ρ s u ok R hu Q E q => by
    rw [arm_assign_Attribute]
    refine wpAny_bind (wpAny_holding (ho A fz kp kg ρ s ok R _ _ fun fz₁ ρ₁ va s₁ R₁ g₁ r₁ => wpAny_bind (wpAny_standAt ?_)))
    obtain ⟨a, dx, es, ep, rfl, h1, I, h2, h3⟩ := ins_at R₁.toLRel hi r₁
    have hu₁ := VRel.grow g₁ _ _ hu
    refine wpAny_bind (wpAny_holding (set_plain (R₁.kin XO) I hs ?_))
    have hput := h3.put (name := name) (hs := PyData.keyHash X.w.params name) (tk := s₁.toks + 1) hu₁
    refine osa_ledger (X := X) (s := { s₁ with toks := s₁.toks + 1 }) (R₁.kin XO) I rfl hp ht hh h3.some_ (by
      rw [hput.len]; have := setA_length name v ds; omega) fun h' hs' hd' => ?_
    refine wpAny_release ?_
    refine q _ _ _ _ (R₁.updL (tk := s₁.toks + 1 + 1) h1 hs' hd' ⟨_, _, rfl, ?_⟩) g₁ trivial
    simpa using hput
end
end Mine
end
section
open PySem PySem.W PySem.Calls PyProof.Rows
set_option linter.all false
set_option maxRecDepth 100000
namespace Mine

section
variable {X : SX} {env : Env} {d : Nat} {st st' st₁ st₂ st₃ : St} {fz kp : FH} {kg : Nat → Option GenState} {ρ : List Addr} {led led' : List MObj} {s : Shared} {A : Around}

theorem tup_get : typeLookup (.type "tuple") "__getitem__" = pure (some (.builtin "tuple.__getitem__")) := by rw [typeLookup_type, builtinLookup_eq_fast]; kernel_rfl
theorem lst_get : typeLookup (.type "list") "__getitem__" = pure (some (.builtin "list.__getitem__")) := by rw [typeLookup_type, builtinLookup_eq_fast]; kernel_rfl
theorem str_get : typeLookup (.type "str") "__getitem__" = pure (some (.builtin "str.__getitem__")) := by rw [typeLookup_type, builtinLookup_eq_fast]; kernel_rfl

theorem ItE.tup {vs : List MVal} {k : Int} {j : Nat} {v : MVal} (hj : seqIndex? k vs.length = some j) (hx : vs[j]? = some v) (hlo : -(2 ^ 63) ≤ k := by omega) (hhi : k < 2 ^ 63 := by omega) : ItE X env d (.tup vs) (.int k) st v st :=
  fun A fz kp kg ρ s va vb value slice ok R ha hb hs Q E q => by
    obtain ⟨a, arr, rfl, ht, hv, hz⟩ := tup_is R.toLRel ha
    simp only [VRel] at hb
    obtain ⟨u, rfl⟩ := hb
    obtain ⟨x, e, hx'⟩ := hv.get hx
    exact tail_any (T := "tuple") ht.typeIs tup_get (getItem_tuple ht hlo hhi (by rw [hz]; exact hj) (by rw [← Array.getElem?_toList]; exact e) (q _ _ _ _ R (.refl _ _) hx')) (hs _ _)
theorem ItE.lst {vs : List MVal} {k : Int} {j : Nat} {v : MVal} (hj : seqIndex? k vs.length = some j) (hx : vs[j]? = some v) (hlo : -(2 ^ 63) ≤ k := by omega) (hhi : k < 2 ^ 63 := by omega) : ItE X env d (.lst vs) (.int k) st v st :=
  fun A fz kp kg ρ s va vb value slice ok R ha hb hs Q E q => by
    obtain ⟨a, arr, rfl, ht, hv, hz⟩ := lst_is R.toLRel ha
    simp only [VRel] at hb
    obtain ⟨u, rfl⟩ := hb
    obtain ⟨x, e, hx'⟩ := hv.get hx
    exact tail_any (T := "list") (let ⟨_, e⟩ := ht; ⟨_, e, rfl⟩) lst_get (listAt ht.isList hlo hhi (by rw [hz]; exact hj) (by rw [← Array.getElem?_toList]; exact e) (q _ _ _ _ R (.refl _ _) hx')) (hs _ _)
theorem ItE.ref {i : Nat} {vs : List MVal} {k : Int} {j : Nat} {v : MVal} (hi : st.led[i]? = some (.lst vs)) (hj : seqIndex? k vs.length = some j) (hx : vs[j]? = some v) (hlo : -(2 ^ 63) ≤ k := by omega) (hhi : k < 2 ^ 63 := by omega) : ItE X env d (.ref i) (.int k) st v st :=
  fun A fz kp kg ρ s va vb value slice ok R ha hb hs Q E q => by
    obtain ⟨a, arr, ep, h1, rfl, ht, hv, hz⟩ := ref_is R.toLRel hi ha
    simp only [VRel] at hb
    obtain ⟨u, rfl⟩ := hb
    obtain ⟨x, e, hx'⟩ := hv.get hx
    exact tail_any (T := "list") ⟨_, ht, rfl⟩ lst_get (listAt ⟨_, ht, rfl, _, rfl⟩ hlo hhi (by rw [hz]; exact hj) (by rw [← Array.getElem?_toList]; exact e) (q _ _ _ _ R (.refl _ _) hx')) (hs _ _)
theorem ItE.str {x : Str} {k : Int} {j c : Nat} (hj : seqIndex? k x.length = some j) (hx : x.cps[j]? = some c) (hlo : -(2 ^ 63) ≤ k := by omega) (hhi : k < 2 ^ 63 := by omega) : ItE X env d (.str x) (.int k) st (.str ⟨#[c]⟩) st :=
  fun A fz kp kg ρ s va vb value slice ok R ha hb hs Q E q => by
    simp only [VRel] at ha hb
    obtain ⟨t, rfl⟩ := ha
    obtain ⟨u, rfl⟩ := hb
    refine tail_any (T := "str") rfl str_get (getItem_str ?_ (c := c) ?_ (q _ _ _ _ (R.tk _) (.refl _ _) (by simp [VRel]))) (hs _ _)
    · have h1 : decide (k < -(2 ^ 63 : Int)) = false := by simp; omega
      have h2 : decide (k ≥ (2 ^ 63 : Int)) = false := by simp; omega
      rw [h1, h2]; rfl
    · rw [hj]; exact hx

-- slices
def PtE (X : SX) (env : Env) (d : Nat) (e : Option Expr) (st : St) (r : Option Int) (st' : St) : Prop :=
  ∀ A fz kp kg ρ s, AOk A d → Rel X env fz kp kg ρ st s → WP X env A fz kp kg ρ (evalPart e env) st' (fun fz ρ v => ∃ l : Option (Int × Tok), v = partValue l ∧ l.map (·.1) = r) s
theorem PtE.none : PtE X env d none st none st := fun A fz kp kg ρ s ok R Q E q => by
  rw [evalPart_none]
  exact wpAny_pure (q _ _ _ _ R (.refl _ _) ⟨Option.none, rfl, rfl⟩)
theorem PtE.some {e : Expr} {k : Int} (h : EvE X env d e st (.int k) st') : PtE X env d (some e) st (some k) st' := fun A fz kp kg ρ s ok R Q E q => by
  rw [evalPart_some]
  refine h A fz kp kg ρ s ok R _ _ fun fz' ρ' v s' R' g hv => ?_
  simp only [VRel] at hv
  obtain ⟨t, rfl⟩ := hv
  exact q _ _ _ _ R' g ⟨Option.some (k, t), rfl, rfl⟩

theorem EvE.subS {value : Expr} {lower upper : Option Expr} {p pos : Pos} {x : Str} {lo hi : Option Int} (h1 : EvE X env d value st (.str x) st₁) (h2 : PtE X env d lower st₁ lo st₂) (h3 : PtE X env d upper st₂ hi st') (hz : x.length ≤ 10000000)
    (ht : ∀ o r, letTemporaryGo value o r = pure () := by intro _ _; rfl) : EvE X env d (.Subscript value (.Slice lower upper none p) pos) st (.str (sliceS x lo hi)) st' :=
  fun A fz kp kg ρ s ok R Q E q => wpAny_Subscript_str_slice (h1 A fz kp kg ρ s ok R _ _ fun fz₁ ρ₁ va s₁ R₁ g₁ r₁ => h2 A fz₁ kp kg ρ₁ s₁ ok R₁ _ _ fun fz₂ ρ₂ vl s₂ R₂ g₂ r₂ => h3 A fz₂ kp kg ρ₂ s₂ ok R₂ _ _ fun fz₃ ρ₃ vu s₃ R₃ g₃ r₃ => by
    simp only [VRel] at r₁
    obtain ⟨t, rfl⟩ := r₁
    obtain ⟨l, rfl, rfl⟩ := r₂
    obtain ⟨u, rfl, rfl⟩ := r₃
    refine ⟨x, t, l, u, rfl, rfl, rfl, ?_⟩
    have R₄ := R₃.keep (h' := s₃.heap.push { cls := .type "slice", data := .fields #[partValue l, partValue u, .none] }) (tk := s₃.toks) (fun _ _ e => Heap.get?_push_of_some _ e)
    have g₄ : Grow fz ρ fz₃ ρ₃ := (g₁.trans g₂).trans g₃
    show (sliceMade x t l u none).post Q _
    unfold sliceMade slicePicked
    simp only [Option.map_none, Option.getD_none]
    show (if _ then _ else _ : Made).post Q _
    have eS : Mine.sliceS x (l.map (·.1)) (u.map (·.1)) = if (Builtin.Str.strSliceIndices (l.map (·.1)) (u.map (·.1)) 1 x.length).length == x.length then x else ⟨((Builtin.Str.strSliceIndices (l.map (·.1)) (u.map (·.1)) 1 x.length).filterMap (x.cps[·]?)).toArray⟩ := rfl
    rw [eS] at q
    by_cases hc : ((Builtin.Str.strSliceIndices (l.map (·.1)) (u.map (·.1)) 1 x.length).length == x.length) = true
    · rw [if_pos hc] at q
      rw [if_pos (by rw [hc]; rfl)]
      exact q _ _ _ _ R₄ g₄ (by simp [VRel])
    · rw [if_neg hc] at q
      rw [if_neg (by simpa using hc)]
      refine ⟨?_, q _ _ _ _ (R₄.tk _) g₄ (by simp only [VRel]; exact ⟨_, rfl⟩)⟩
      have : (Builtin.Str.strSliceIndices (l.map (·.1)) (u.map (·.1)) 1 x.length).length ≤ x.length := by
        exact sliceIndices_le _ _ _
      rw [sizeLine_eq]
      refine Nat.le_trans (List.length_filterMap_le _ _) ?_
      omega) ht

theorem isPart_of {l : Option (Int × Tok)} : IsPart (partValue l) (l.map (·.1)) := by
  cases l with
  | none => exact .none
  | some p => obtain ⟨k, t⟩ := p; exact .int k t
theorem slicePick_rel {fz : FH} {ρ : List Addr} {vs : List MVal} {arr : Array Value} (h : VRels fz ρ vs arr.toList) (lo hi : Option Int) : VRels fz ρ (sliceL vs lo hi) (slicePick arr lo hi none).toList := by
  unfold sliceL slicePick
  have e : arr.size = vs.length := by simpa using VRels.length h
  rw [e]
  simp only [List.toList_toArray]
  have := h.pick (sliceRange (sliceBounds lo hi none vs.length).1 (sliceBounds lo hi none vs.length).2.1 (sliceBounds lo hi none vs.length).2.2)
  simpa using this
/-- a slice of a list: a new list, frozen -/
theorem EvE.subL {value : Expr} {lower upper : Option Expr} {p pos : Pos} {vs : List MVal} {lo hi : Option Int} (h1 : EvE X env d value st (.lst vs) st₁) (h2 : PtE X env d lower st₁ lo st₂) (h3 : PtE X env d upper st₂ hi st') (hz : vs.length ≤ 10000000)
    (ht : ∀ o r, letTemporaryGo value o r = pure () := by intro _ _; rfl) : EvE X env d (.Subscript value (.Slice lower upper none p) pos) st (.lst (sliceL vs lo hi)) st' :=
  fun A fz kp kg ρ s ok R Q E q => wpAny_Subscript_list_slice (h1 A fz kp kg ρ s ok R _ _ fun fz₁ ρ₁ va s₁ R₁ g₁ r₁ => h2 A fz₁ kp kg ρ₁ s₁ ok R₁ _ _ fun fz₂ ρ₂ vl s₂ R₂ g₂ r₂ => h3 A fz₂ kp kg ρ₂ s₂ ok R₂ _ _ fun fz₃ ρ₃ vu s₃ R₃ g₃ r₃ => by
    obtain ⟨a, arr, rfl, hl, hv, hz'⟩ := lst_is R₃.toLRel (VRel.grow (g₂.trans g₃) _ _ r₁)
    obtain ⟨l, rfl, rfl⟩ := r₂
    obtain ⟨u, rfl, rfl⟩ := r₃
    refine ⟨a, arr, _, _, rfl, hl.isList, by rw [sizeLine_eq]; omega, isPart_of, isPart_of, ?_⟩
    have R₄ := R₃.keep (h' := s₃.heap.push { cls := .type "slice", data := .fields #[partValue l, partValue u, .none] }) (tk := s₃.toks) (fun _ _ e => Heap.get?_push_of_some _ e)
    have hn : ({ s₃ with heap := s₃.heap.push { cls := .type "slice", data := .fields #[partValue l, partValue u, .none] } } : Shared).heap.get? (s₃.heap.objs.size + 1) = none := by
      have : (s₃.heap.push { cls := .type "slice", data := .fields #[partValue l, partValue u, .none] }).objs.size = s₃.heap.objs.size + 1 := by rw [Heap.size_push]
      rw [← this]; exact none_of_size
    have hget : ((s₃.heap.push { cls := .type "slice", data := .fields #[partValue l, partValue u, .none] }).push { cls := .type "list", data := .seq (slicePick arr (l.map (·.1)) (u.map (·.1)) none) }).get? (s₃.heap.objs.size + 1) = some (lstO (slicePick arr (l.map (·.1)) (u.map (·.1)) none) 0) := by
      have : (s₃.heap.push { cls := .type "slice", data := .fields #[partValue l, partValue u, .none] }).objs.size = s₃.heap.objs.size + 1 := by rw [Heap.size_push]
      rw [← this]; exact Heap.get?_push_size _ rfl
    have g₄ : Grow fz₃ ρ₃ _ ρ₃ := grow_upd (o := lstO (slicePick arr (l.map (·.1)) (u.map (·.1)) none) 0) (R₄.fz_none hn)
    refine q _ _ _ _ (R₄.new (tk := s₃.toks) hn (fun _ _ e => Heap.get?_push_of_some _ e) hget) (((g₁.trans g₂).trans g₃).trans g₄) ?_
    simp only [VRel]
    exact ⟨_, _, 0, rfl, upd_self .., VRels.grow g₄ _ _ (slicePick_rel hv _ _)⟩) ht

-- lists that may be changed
theorem Rel.add (R : Rel X env fz kp kg ρ st s) {h' : Heap} {tk : Nat} {a : Addr} {m : MObj} {o : Obj} (hn : s.heap.get? a = none) (hk : ∀ b o, s.heap.get? b = some o → h'.get? b = some o) (ha : h'.get? a = some o) (ho : ORel fz (ρ ++ [a]) m o) :
    Rel X env fz kp kg (ρ ++ [a]) { st with led := st.led ++ [m] } { s with heap := h', toks := tk } :=
  { R.toLRel.add (tk := tk) (new := [a]) (objs := [m]) hk rfl (by simp) (fun b hb => by simp at hb; subst hb; exact hn) (fun i b m' e1 e2 => by
      cases i with
      | zero => simp at e1 e2; subst e1; subst e2; exact ⟨o, ha, ho⟩
      | succ i => simp at e1) with
    iloc := let ⟨m, hns, h⟩ := R.iloc; ⟨m, hns.keeps hk, fun x v e => let ⟨u, e', r⟩ := h x v e; ⟨u, e', VRel.ext _ r⟩⟩
    icell := fun x i e => let ⟨b, e1, e2⟩ := R.icell x i e; ⟨b, (grow_ext (fz := fz)).at e1, e2⟩
    offL := by
      refine ⟨R.offL.1, R.offL.2.1, fun hm => ?_, R.offL.2.2.2⟩
      rcases List.mem_append.mp hm with hm | hm
      · exact R.offL.2.2.1 hm
      · simp at hm
        obtain ⟨o', e⟩ := R.ns_some
        rw [hm, hn] at e; cases e }

/-- a list display whose list will be changed -/
theorem EvE.lstM {es pos vs} (h : EvL X env d pos es st vs st₁) (hz : vs.length ≤ 10000000 := by decide) : EvE X env d (.List es pos) st (.ref st₁.led.length) { st₁ with led := st₁.led ++ [.lst vs] } :=
  fun A fz kp kg ρ s ok R Q E q => wpAny_List_spliced (h A fz kp kg ρ s ok R _ _ fun fz₁ ρ₁ va s₁ R₁ g₁ r₁ => by
    refine ⟨by rw [VRels.length r₁, sizeLine_eq]; omega, ?_⟩
    have hn : s₁.heap.get? s₁.heap.objs.size = none := none_of_size
    refine q fz₁ _ _ _ (R₁.add (tk := s₁.toks) (m := .lst vs) (o := lstO va.toArray 0) hn (fun _ _ e => Heap.get?_push_of_some _ e) (Heap.get?_push_size _ rfl) ⟨_, _, rfl, ?_⟩) (g₁.trans grow_ext) ?_
    · simpa using VRels.grow (grow_ext (fz := fz₁)) _ _ r₁
    · simp only [VRel]
      refine ⟨s₁.heap.objs.size, ?_, rfl⟩
      rw [List.getElem?_append_right (by have := R₁.len; omega)]
      have := R₁.len
      simp [this])

theorem AppE.append {i : Nat} {vs : List MVal} {v : MVal} (hi : st.led[i]? = some (.lst vs)) (hz : vs.length ≤ 10000000) : AppE X env d (.obj (.builtin "list.append")) [.ref i, v] [] st .none { st with led := st.led.set i (.lst (vs ++ [v])) } :=
  fun A fz kp kg ρ s fv us kvs ok R hf hv hk Q E q => by
    simp only [VRel] at hf
    subst hf
    simp only [VRels] at hv
    obtain ⟨x, r, rfl, h1, y, r', rfl, h2, rfl⟩ := hv
    obtain ⟨hk1, hk2⟩ := hk
    have e : kvs = [] := by cases kvs with | nil => rfl | cons p l => simp at hk1
    subst e
    obtain ⟨a, arr, ep, e1, rfl, hl, hvs, hz'⟩ := ref_is R.toLRel hi h1
    refine wpAny_list_append_plain (items := arr) ⟨ep, hl⟩ (fun h' ⟨n, hp⟩ hs => ?_) (by rw [sizeLine_eq]; omega)
    refine q _ _ _ _ (R.updL (tk := s.toks) e1 hs hp ⟨_, _, rfl, ?_⟩) (.refl _ _) (by simp [VRel])
    rw [Array.toList_push]
    exact VRels.append hvs (by simp only [VRels]; exact ⟨_, _, rfl, h2, rfl⟩)
theorem MtE.append {i : Nat} {vs : List MVal} (hi : st.led[i]? = some (.lst vs)) : MtE X env d (.ref i) "append" st (.obj (.builtin "list.append")) [.ref i] st :=
  fun A fz kp kg ρ s va pl ok R h Q E q => by
    have h' := h
    obtain ⟨a, arr, ep, h1, rfl, hl, hv, hz⟩ := ref_is R.toLRel hi h
    exact getMethod_list_append hl rfl rfl (q _ _ _ _ R (.refl _ _) ⟨by simp [VRel], by simp only [VRels]; exact ⟨_, _, rfl, h', rfl⟩⟩)
theorem KpE.method {id : String} : KpE X (.obj (.builtin id)) := KpE.blt

-- len
theorem kvs_nil {fz : FH} {ρ : List Addr} {kvs : List (Str × Value)} (h : KRels fz ρ [] kvs) : kvs = [] := by
  cases kvs with
  | nil => rfl
  | cons p l => have := h.1; simp at this
theorem AppE.lenS {x : Str} (hz : x.length ≤ 10000000) : AppE X env d (.obj (.builtin "len")) [.str x] [] st (.int x.length) st :=
  fun A fz kp kg ρ s fv us kvs ok R hf hv hk Q E q => by
    have e := kvs_nil hk; subst e
    simp only [VRel] at hf; subst hf
    simp only [VRels, VRel] at hv
    obtain ⟨y, r, rfl, ⟨t, rfl⟩, rfl⟩ := hv
    exact PyProof.Rows.len_str (by omega) (q _ _ _ _ (R.tk _) (.refl _ _) (by simp [VRel]))
theorem AppE.lenL {vs : List MVal} (hz : vs.length ≤ 10000000) : AppE X env d (.obj (.builtin "len")) [.lst vs] [] st (.int vs.length) st :=
  fun A fz kp kg ρ s fv us kvs ok R hf hv hk Q E q => by
    have e := kvs_nil hk; subst e
    simp only [VRel] at hf; subst hf
    simp only [VRels] at hv
    obtain ⟨y, r, rfl, h1, rfl⟩ := hv
    obtain ⟨a, arr, rfl, hl, hvs, hz'⟩ := lst_is R.toLRel h1
    refine call_len_list hl.isList (by omega) (q _ _ _ _ (R.tk _) (.refl _ _) ?_)
    rw [hz']; simp [VRel]
theorem AppE.lenR {i : Nat} {vs : List MVal} (hi : st.led[i]? = some (.lst vs)) (hz : vs.length ≤ 10000000) : AppE X env d (.obj (.builtin "len")) [.ref i] [] st (.int vs.length) st :=
  fun A fz kp kg ρ s fv us kvs ok R hf hv hk Q E q => by
    have e := kvs_nil hk; subst e
    simp only [VRel] at hf; subst hf
    simp only [VRels] at hv
    obtain ⟨y, r, rfl, h1, rfl⟩ := hv
    obtain ⟨a, arr, ep, e1, rfl, hl, hvs, hz'⟩ := ref_is R.toLRel hi h1
    refine call_len_list ⟨_, hl, rfl, _, rfl⟩ (by omega) (q _ _ _ _ (R.tk _) (.refl _ _) ?_)
    rw [hz']; simp [VRel]
theorem AppE.lenT {vs : List MVal} (hz : vs.length ≤ 10000000) : AppE X env d (.obj (.builtin "len")) [.tup vs] [] st (.int vs.length) st :=
  fun A fz kp kg ρ s fv us kvs ok R hf hv hk Q E q => by
    have e := kvs_nil hk; subst e
    simp only [VRel] at hf; subst hf
    simp only [VRels] at hv
    obtain ⟨y, r, rfl, h1, rfl⟩ := hv
    obtain ⟨a, arr, rfl, hl, hvs, hz'⟩ := tup_is R.toLRel h1
    refine PyProof.Rows.len_tuple hl (by omega) (q _ _ _ _ (R.tk _) (.refl _ _) ?_)
    rw [hz']; simp [VRel]
-- range
theorem AppE.range1 {n : Int} : AppE X env d (.obj (.type "range")) [.int n] [] st (.rng 0 n) st :=
  fun A fz kp kg ρ s fv us kvs ok R hf hv hk Q E q => by
    have e := kvs_nil hk; subst e
    simp only [VRel] at hf; subst hf
    simp only [VRels, VRel] at hv
    obtain ⟨y, r, rfl, ⟨t, rfl⟩, rfl⟩ := hv
    refine call_range_1 ?_
    have hn : s.heap.get? s.heap.objs.size = none := none_of_size
    refine q _ _ _ _ (R.new (tk := s.toks + 1 + 1) hn (fun _ _ e => Heap.get?_push_of_some _ e) (Heap.get?_push_size _ rfl)) (grow_upd (R.fz_none hn)) ?_
    simp only [VRel]
    exact ⟨_, _, _, _, rfl, upd_self ..⟩
theorem AppE.range2 {a b : Int} : AppE X env d (.obj (.type "range")) [.int a, .int b] [] st (.rng a b) st :=
  fun A fz kp kg ρ s fv us kvs ok R hf hv hk Q E q => by
    have e := kvs_nil hk; subst e
    simp only [VRel] at hf; subst hf
    simp only [VRels, VRel] at hv
    obtain ⟨y, r, rfl, ⟨t, rfl⟩, y', r', rfl, ⟨t', rfl⟩, rfl⟩ := hv
    refine call_range_2 ?_
    have hn : s.heap.get? s.heap.objs.size = none := none_of_size
    refine q _ _ _ _ (R.new (tk := s.toks + 1) hn (fun _ _ e => Heap.get?_push_of_some _ e) (Heap.get?_push_size _ rfl)) (grow_upd (R.fz_none hn)) ?_
    simp only [VRel]
    exact ⟨_, _, _, _, rfl, upd_self ..⟩
theorem IterE.rng {a b : Int} (h1 : -(2 ^ 62) ≤ a := by omega) (h2 : a < 2 ^ 62 := by omega) (h3 : -(2 ^ 62) ≤ b := by omega) (h4 : b < 2 ^ 62 := by omega) : IterE X env d (.rng a b) (intsL a (b - a).toNat) st := fun A fz kp kg ρ s u Q E ok R h q => by
  simp only [VRel] at h
  obtain ⟨r, t, u', w, rfl, h5⟩ := h
  refine wpAny_pyIter_range (R.ifz _ _ h5) (small_one h1 h2 h3 h4) ?_
  have hsz : Builtin.Range.rangeSize a b 1 = ((b - a).toNat : Int) := by rw [rangeSize_one]; split <;> omega
  rw [hsz]
  exact q _ _ _ s.toks none_of_size (fun _ _ e => Heap.get?_push_of_some _ e) (Heap.get?_push_size _ rfl) .range
end
end Mine
end
section
open PySem PySem.W PySem.Calls PyProof.Rows
set_option linter.all false
set_option maxRecDepth 100000
namespace Mine

mutual
/-- a reference to the ledger's last list is replaced by the list -/
def frz1 (n : Nat) (w : MVal) : MVal → MVal
  | .tup vs => .tup (frzs n w vs)
  | .lst vs => .lst (frzs n w vs)
  | .dct ks vs => .dct ks (frzs n w vs)
  | .ref i => if i = n then w else .ref i
  | .bm id s => .bm id (frz1 n w s)
  | .inst C ks vs => .inst C ks (frzs n w vs)
  | .none => .none
  | .bool b => .bool b
  | .int i => .int i
  | .str x => .str x
  | .obj v => .obj v
  | .rng a b => .rng a b
  | .insr C i => .insr C i
  | .clo F cs => .clo F cs
  | .gen g => .gen g
  | .fo T vs => .fo T (frzs n w vs)
def frzs (n : Nat) (w : MVal) : List MVal → List MVal
  | [] => []
  | x :: xs => frz1 n w x :: frzs n w xs
end
def MObj.frz (n : Nat) (w : MVal) : MObj → MObj
  | .lst vs => .lst (frzs n w vs)
  | .cell none => .cell none
  | .cell (some v) => .cell (some (frz1 n w v))
  | .dct ds => .dct (ds.map fun x => (x.1, frz1 n w x.2))

mutual
theorem VRel.frz {fz : FH} {ρ : List Addr} {n : Nat} {w : MVal} (hw : ∀ a, ρ[n]? = some a → VRel fz ρ w (.ref a)) : ∀ (m : MVal) (v : Value), VRel fz ρ m v → VRel fz ρ (frz1 n w m) v
  | .none, v, h => by simpa [VRel, frz1] using h
  | .bool b, v, h => by simpa [VRel, frz1] using h
  | .int i, v, h => by simpa [VRel, frz1] using h
  | .str s, v, h => by simpa [VRel, frz1] using h
  | .tup vs, v, h => by
    simp only [VRel, frz1] at h ⊢
    obtain ⟨a, arr, rfl, h1, h2⟩ := h
    exact ⟨a, arr, rfl, h1, VRels.frz hw vs _ h2⟩
  | .lst vs, v, h => by
    simp only [VRel, frz1] at h ⊢
    obtain ⟨a, arr, ep, rfl, h1, h2⟩ := h
    exact ⟨a, arr, ep, rfl, h1, VRels.frz hw vs _ h2⟩
  | .dct ks vs, v, h => by
    simp only [VRel, frz1] at h ⊢
    obtain ⟨a, es, ep, rfl, h1, h2, h3, h4⟩ := h
    exact ⟨a, es, ep, rfl, h1, h2, h3, VRels.frz hw vs _ h4⟩
  | .ref i, v, h => by
    simp only [frz1]
    split
    · rename_i e
      subst e
      simp only [VRel] at h
      obtain ⟨a, h1, rfl⟩ := h
      exact hw a h1
    · exact h
  | .obj v', v, h => by simpa [VRel, frz1] using h
  | .bm id self, v, h => by
    simp only [VRel, frz1] at h ⊢
    obtain ⟨a, x, rfl, h1, h2⟩ := h
    exact ⟨a, x, rfl, h1, VRel.frz hw self _ h2⟩
  | .inst C ks vs, v, h => by
    simp only [VRel, frz1] at h ⊢
    obtain ⟨a, dx, es, ep, rfl, h1, h2, h3, h4, h5⟩ := h
    exact ⟨a, dx, es, ep, rfl, h1, h2, h3, h4, VRels.frz hw vs _ h5⟩
  | .rng a b, v, h => by simpa [VRel, frz1] using h
  | .insr C i, v, h => by simpa [VRel, frz1] using h
  | .clo F cs, v, h => by simpa [VRel, frz1] using h
  | .gen g, v, h => by simpa [VRel, frz1] using h
  | .fo T vs, v, h => by
    simp only [VRel, frz1] at h ⊢
    obtain ⟨a, arr, rfl, h1, h2⟩ := h
    exact ⟨a, arr, rfl, h1, VRels.frz hw vs _ h2⟩
theorem VRels.frz {fz : FH} {ρ : List Addr} {n : Nat} {w : MVal} (hw : ∀ a, ρ[n]? = some a → VRel fz ρ w (.ref a)) : ∀ (ms : List MVal) (vs : List Value), VRels fz ρ ms vs → VRels fz ρ (frzs n w ms) vs
  | [], vs, h => by simpa [VRels, frzs] using h
  | x :: xs, vs, h => by
    simp only [VRels, frzs] at h ⊢
    obtain ⟨v, r, rfl, h1, h2⟩ := h
    exact ⟨v, r, rfl, VRel.frz hw x _ h1, VRels.frz hw xs _ h2⟩
end
theorem DRel.frz {fz : FH} {ρ : List Addr} {n : Nat} {w : MVal} (hw : ∀ a, ρ[n]? = some a → VRel fz ρ w (.ref a)) : ∀ (m : List (Str × MVal)) (l : List DictEntry), DRel fz ρ m l → DRel fz ρ (m.map fun x => (x.1, frz1 n w x.2)) l
  | [], _, h => h
  | (k, v) :: r, _, ⟨h, t, u, es, e, h1, h2⟩ => ⟨h, t, u, es, e, VRel.frz hw _ _ h1, DRel.frz hw r es h2⟩
theorem ORel.frz {fz : FH} {ρ : List Addr} {n : Nat} {w : MVal} (hw : ∀ a, ρ[n]? = some a → VRel fz ρ w (.ref a)) : ∀ (m : MObj) (o : Obj), ORel fz ρ m o → ORel fz ρ (m.frz n w) o
  | .lst vs, _, ⟨arr, ep, e, h⟩ => ⟨arr, ep, e, VRels.frz hw _ _ h⟩
  | .cell none, _, h => h
  | .cell (some v), _, ⟨x, e, h⟩ => ⟨x, e, VRel.frz hw _ _ h⟩
  | .dct ds, _, ⟨es, ep, e, h⟩ => ⟨es, ep, e, DRel.frz hw _ _ h⟩

/-- the last list of the ledger is frozen and leaves it -/
def St.frz (st : St) (vs : List MVal) : St :=
  let n := st.led.length - 1
  ⟨st.loc.map fun x => (x.1, frz1 n (.lst vs) x.2), st.cells, (st.led.take n).map (MObj.frz n (.lst vs))⟩

theorem lookup_map {α β : Type} {f : α → β} {x : Str} : ∀ {l : List (Str × α)}, (l.map fun y => (y.1, f y.2)).lookup x = (l.lookup x).map f
  | [] => rfl
  | (k, v) :: r => by
    simp only [List.map_cons, List.lookup_cons]
    cases x == k with
    | true => rfl
    | false => exact lookup_map

section
variable {X : SX} {env : Env} {d : Nat} {st st' st₁ st₂ st₃ : St} {fz kp : FH} {kg : Nat → Option GenState} {ρ : List Addr} {led led' : List MObj} {s : Shared} {A : Around}

theorem LRel.frzL {vs : List MVal} (R : LRel X fz kp kg ρ (led ++ [.lst vs]) s) (hb : belows led.length vs = true)
    (hall : (led.map (MObj.frz led.length (.lst vs))).all (MObj.refsLt led.length) = true) :
    ∃ a o, ρ[led.length]? = some a ∧ fz a = none ∧ s.heap.get? a = some o ∧ VRel (Mine.upd fz a o) ρ (.lst vs) (.ref a) ∧ Grow fz ρ (Mine.upd fz a o) ρ ∧
      LRel X (Mine.upd fz a o) kp kg (ρ.take led.length) (led.map (MObj.frz led.length (.lst vs))) s := by
  have hl : ρ.length = led.length + 1 := by have := R.len; simpa using this
  have hlt : led.length < ρ.length := by omega
  have hi : ρ[led.length]? = some ρ[led.length] := List.getElem?_eq_getElem hlt
  obtain ⟨o, h1, arr, ep, h2, h3⟩ := R.ild led.length ρ[led.length] (.lst vs) hi (by simp)
  have hmem : ρ[led.length] ∈ ρ := List.getElem_mem hlt
  have hfn := (R.off _ hmem).1
  have g : Grow fz ρ (Mine.upd fz ρ[led.length] o) ρ := grow_upd hfn
  have hv : VRel (Mine.upd fz ρ[led.length] o) ρ (.lst vs) (.ref ρ[led.length]) := by
    simp only [VRel]
    refine ⟨_, arr, ep, rfl, ?_, VRels.grow g _ _ h3⟩
    rw [upd_self, h2]
  have hw : ∀ a, ρ[led.length]? = some a → VRel (Mine.upd fz ρ[led.length] o) ρ (.lst vs) (.ref a) := fun a e => by
    rw [hi] at e; cases e; exact hv
  have sub : ∀ b ∈ ρ.take led.length, b ∈ ρ ∧ b ≠ ρ[led.length] := fun b hb => by
    refine ⟨List.mem_of_mem_take hb, fun e => ?_⟩
    obtain ⟨j, hj, e'⟩ := List.getElem_of_mem hb
    rw [List.getElem_take] at e'
    have hj' : j < led.length := by
      have := hj; rw [List.length_take] at this; omega
    have := nodup_idx R.nd (i := j) (j := led.length) (by omega) hlt (e'.trans e)
    omega
  refine ⟨ρ[led.length], o, hi, hfn, h1, hv, g, ?_⟩
  exact {
    base := R.base
    tb := fun q hq => let ⟨ps, e, t1, t2⟩ := R.tb q hq; ⟨ps, e, t1, t2.grow g.1⟩
    hb := fun b o' e => g.1 _ _ (R.hb b o' e)
    ifz := fun b o' e => by
      by_cases hb' : b = ρ[led.length]
      · subst hb'; rw [upd_self] at e; cases e; exact h1
      · rw [upd_ne hb'] at e; exact R.ifz b o' e
    ikp := R.ikp
    ikg := R.ikg
    len := by rw [List.length_take, List.length_map]; omega
    ild := fun i a m e1 e2 => by
      have e2' := e2
      rw [List.getElem?_map] at e2
      obtain ⟨m', e3, rfl⟩ := Option.map_eq_some_iff.mp e2
      have hi' := (List.getElem?_eq_some_iff.mp e3).1
      have e1' : ρ[i]? = some a := by rw [List.getElem?_take, if_pos hi'] at e1; exact e1
      obtain ⟨o', e4, e5⟩ := R.ild i a m' e1' (by rw [List.getElem?_append_left hi']; exact e3)
      refine ⟨o', e4, ORel.take _ _ (List.all_eq_true.mp hall _ (List.mem_of_getElem? e2')) (ORel.frz hw _ _ (ORel.grow g _ _ e5))⟩
    nd := List.Nodup.sublist (List.take_sublist _ ρ) R.nd
    off := fun b hb => by
      obtain ⟨h5, h6⟩ := sub b hb
      refine ⟨by rw [upd_ne h6]; exact (R.off b h5).1, (R.off b h5).2⟩
    offT := fun q hq => ⟨by rw [upd_ne ((R.off _ hmem).2.2 q hq)]; exact (R.offT q hq).1, (R.offT q hq).2⟩
    dis := fun b o' e => by
      rw [upd_ne (fun q => by subst q; rw [(R.off _ hmem).2.1] at e; cases e)]; exact R.dis b o' e }

theorem Rel.frzL {vs : List MVal} {st : St} (R : Rel X env fz kp kg ρ st s) (he : st.led = led ++ [.lst vs]) (hb : belows led.length vs = true)
    (hall : (led.map (MObj.frz led.length (.lst vs))).all (MObj.refsLt led.length) = true) (hloc : (st.loc.all fun x => (frz1 led.length (.lst vs) x.2).refsLt led.length) = true) (hc : (st.cells.all fun x => decide (x.2 < led.length)) = true) :
    ∃ fz', (∀ a o, fz a = some o → fz' a = some o) ∧ (∀ m v, (frz1 led.length (.lst vs) m).refsLt led.length = true → VRel fz ρ m v → VRel fz' (ρ.take led.length) (frz1 led.length (.lst vs) m) v) ∧
      Rel X env fz' kp kg (ρ.take led.length) ⟨st.loc.map fun x => (x.1, frz1 led.length (.lst vs) x.2), st.cells, led.map (MObj.frz led.length (.lst vs))⟩ s := by
  have RL := R.toLRel
  rw [he] at RL
  obtain ⟨a, o, hi, hfn, h1, hv, g, L⟩ := RL.frzL hb hall
  have hmem : a ∈ ρ := List.mem_of_getElem? hi
  refine ⟨_, g.1, fun m v hm hmv => VRel.take _ _ hm (VRel.frz (fun b e => by rw [hi] at e; cases e; exact hv) _ _ (VRel.grow g _ _ hmv)), { L with iloc := ?_, icell := fun x i e => ?_, offL := ⟨?_, R.offL.2.1, fun hm => R.offL.2.2.1 (List.mem_of_mem_take hm), R.offL.2.2.2⟩ }⟩
  · obtain ⟨m, hn, hm⟩ := R.iloc
    refine ⟨m, hn, fun x v e => ?_⟩
    dsimp only at e
    rw [lookup_map] at e
    obtain ⟨w, e1, rfl⟩ := Option.map_eq_some_iff.mp e
    obtain ⟨u, e2, e3⟩ := hm x w e1
    refine ⟨u, e2, VRel.take _ _ (List.all_eq_true.mp hloc _ (lookup_mem e1)) (VRel.frz (fun b e => by rw [hi] at e; cases e; exact hv) _ _ (VRel.grow g _ _ e3))⟩
  · obtain ⟨b, e1, e2⟩ := R.icell x i e
    have : i < led.length := of_decide_eq_true (List.all_eq_true.mp hc _ (lookup_mem e))
    exact ⟨b, by rw [List.getElem?_take, if_pos this]; exact e1, e2⟩
  · rw [upd_ne (fun q => R.offL.2.2.1 (by rw [q]; exact hmem))]
    exact R.offL.1
theorem LRel.frzV {vs : List MVal} (R : LRel X fz kp kg ρ led' s) (he : led' = led ++ [.lst vs]) (hb : belows led.length vs = true)
    (hall : (led.map (MObj.frz led.length (.lst vs))).all (MObj.refsLt led.length) = true) :
    ∃ fz', (∀ a o, fz a = some o → fz' a = some o) ∧ (∀ m v, (frz1 led.length (.lst vs) m).refsLt led.length = true → VRel fz ρ m v → VRel fz' (ρ.take led.length) (frz1 led.length (.lst vs) m) v) ∧
      LRel X fz' kp kg (ρ.take led.length) (led.map (MObj.frz led.length (.lst vs))) s := by
  rw [he] at R
  obtain ⟨a, o, hi, hfn, h1, hv, g, L⟩ := R.frzL hb hall
  exact ⟨_, g.1, fun m v hm hmv => VRel.take _ _ hm (VRel.frz (fun b e => by rw [hi] at e; cases e; exact hv) _ _ (VRel.grow g _ _ hmv)), L⟩

theorem take_grow {fz fz' fz'' : FH} {ρ ρ' : List Addr} {n : Nat} (g : Grow fz ρ fz' ρ') (h : ∀ a o, fz' a = some o → fz'' a = some o) (hn : ρ.length ≤ n) : Grow fz ρ fz'' (ρ'.take n) := by
  obtain ⟨g1, t, rfl⟩ := g
  refine ⟨fun a o e => h _ _ (g1 _ _ e), t.take (n - ρ.length), ?_⟩
  rw [List.take_append, List.take_of_length_le hn]

/-- a call's result is frozen -/
theorem CallsTo.frz {f : MVal} {args : List MVal} {kw : List (Str × MVal)} {r : MVal} {led₁ : List MObj} {vs : List MVal} (h : CallsTo X d f args kw led r (led₁ ++ [.lst vs])) (hlen : led.length ≤ led₁.length) (hb : belows led₁.length vs = true)
    (hall : (led₁.map (MObj.frz led₁.length (.lst vs))).all (MObj.refsLt led₁.length) = true) (hr : (frz1 led₁.length (.lst vs) r).refsLt led₁.length = true) :
    CallsTo X d f args kw led (frz1 led₁.length (.lst vs) r) (led₁.map (MObj.frz led₁.length (.lst vs))) := by
  intro A fz kp kg ρ s fv us kvs Rz ok R hf hv hk q
  refine h A fz kp kg ρ s fv us kvs Rz ok R hf hv hk fun fz' ρ' v s' R' g hv' => ?_
  obtain ⟨fz'', h1, h2, h3⟩ := R'.frzV rfl hb hall
  exact q _ _ _ _ h3 (take_grow g h1 (R.len ▸ hlen)) (h2 _ _ hr hv')

theorem execs_app {env : Env} : ∀ (a b : List Stmt), execs (a ++ b) env = (execs a env >>= fun f => match f with | .next => execs b env | f => pure f)
  | [], b => by
    have e : execs [] env = pure .next := rfl
    rw [List.nil_append, e, pure_bind]
  | t :: r, b => by
    rw [List.cons_append, execs_cons, execs_cons, bind_assoc]
    congr 1
    funext f
    cases f with
    | next => exact execs_app r b
    | brk => rw [pure_bind]
    | cont => rw [pure_bind]
    | ret v => rw [pure_bind]
theorem ExL.app {a b : List Stmt} {f : MFlow} (h1 : ExL X env d a st .next st₁) (h2 : ExL X env d b st₁ f st') : ExL X env d (a ++ b) st f st' := fun A fz kp kg ρ s ok R Q E q => by
  rw [execs_app]
  refine wpAny_bind (h1 A fz kp kg ρ s ok R _ _ fun fz' ρ' fl s' R' g hfl => ?_)
  have e : fl = .next := hfl
  subst e
  exact h2 A fz' kp kg ρ' s' ok R' Q E fun fz₂ ρ₂ fl₂ s₂ R₂ g₂ h₂ => q _ _ _ _ R₂ (g.trans g₂) h₂
/-- the last list of the ledger is frozen between two parts of a suite -/
theorem ExL.appF {a b : List Stmt} {f : MFlow} {vs : List MVal} (h1 : ExL X env d a st .next st₁) (he : st₁.led = led ++ [.lst vs]) (hlen : st.led.length ≤ led.length) (hb : belows led.length vs = true)
    (hall : (led.map (MObj.frz led.length (.lst vs))).all (MObj.refsLt led.length) = true) (hloc : (st₁.loc.all fun x => (frz1 led.length (.lst vs) x.2).refsLt led.length) = true) (hc : (st₁.cells.all fun x => decide (x.2 < led.length)) = true)
    (h2 : ExL X env d b ⟨st₁.loc.map fun x => (x.1, frz1 led.length (.lst vs) x.2), st₁.cells, led.map (MObj.frz led.length (.lst vs))⟩ f st') : ExL X env d (a ++ b) st f st' := fun A fz kp kg ρ s ok R Q E q => by
  rw [execs_app]
  refine wpAny_bind (h1 A fz kp kg ρ s ok R _ _ fun fz' ρ' fl s' R' g hfl => ?_)
  have e : fl = .next := hfl
  subst e
  obtain ⟨fz'', k1, k2, k3⟩ := R'.frzL he hb hall hloc hc
  have g' := take_grow g k1 (n := led.length) (R.len ▸ hlen)
  exact h2 A fz'' kp kg _ s' ok k3 Q E fun fz₂ ρ₂ fl₂ s₂ R₂ g₂ h₂ => q _ _ _ _ R₂ (g'.trans g₂) h₂

-- while
inductive WhileE (X : SX) (env : Env) (d : Nat) (test : Expr) (body : List Stmt) : St → MFlow → St → Prop
  | stop {a b : St} : TsE X env d test a false b → WhileE X env d test body a .next b
  | next {a b c e : St} {f g : MFlow} : TsE X env d test a true b → ExL X env d body b f c → f = .next ∨ f = .cont → WhileE X env d test body c g e → WhileE X env d test body a g e
  | brk {a b c : St} : TsE X env d test a true b → ExL X env d body b .brk c → WhileE X env d test body a .next c
  | ret {a b c : St} {v : MVal} : TsE X env d test a true b → ExL X env d body b (.ret v) c → WhileE X env d test body a (.ret v) c
  | weak {a a' e : St} {g : MFlow} : Sub a' a → WhileE X env d test body a' g e → WhileE X env d test body a g e

theorem WhileE.code {test : Expr} {body : List Stmt} {f : MFlow} (h : WhileE X env d test body st f st') : ∀ {A fz kp kg ρ s} (R : Result → Shared → Prop), AOk A d → Rel X env fz kp kg ρ st s →
    (∀ fz' ρ' g s', Rel X env fz' kp kg ρ' st' s' → Grow fz ρ fz' ρ' → FRel fz' ρ' f g → R (.ok g) s') → codeAny (model X.prog X.w) A (.whileLoop test body [] env) R s := by
  induction h with
  | stop h1 =>
    intro A fz kp kg ρ s Rz ok R q
    refine codeAny_of_tree ?_
    rw [Around.under_of_weight (by rfl) (by rfl)]
    show wpAny _ A ((whileTurn test body [] env).onRaise (fun x => do noteFrame x env; theTreesLotGoes x)) _ _ s
    refine wpAny_onRaise ?_
    simp only [whileTurn]
    refine wpAny_bind (h1 A fz kp kg ρ s ok R _ _ fun fz₂ ρ₂ b s₂ R₂ g₂ hb => ?_)
    subst hb
    simp only [Bool.false_eq_true, if_false]
    refine wpAny_bind (wpAny_execs_nil (wpAny_pure ?_))
    exact q _ _ _ _ R₂ g₂ rfl
  | weak hs h ih => exact fun Rz ok R q => ih Rz ok (R.sub hs) q
  | next h1 h2 hf h3 ih =>
    intro A fz kp kg ρ s Rz ok R q
    refine codeAny_of_tree ?_
    rw [Around.under_of_weight (by rfl) (by rfl)]
    show wpAny _ A ((whileTurn test body [] env).onRaise (fun x => do noteFrame x env; theTreesLotGoes x)) _ _ s
    refine wpAny_onRaise ?_
    simp only [whileTurn]
    refine wpAny_bind (h1 A fz kp kg ρ s ok R _ _ fun fz₂ ρ₂ b s₂ R₂ g₂ hb => ?_)
    subst hb
    simp only [if_true]
    refine wpAny_bind (h2 A fz₂ kp kg ρ₂ s₂ ok R₂ _ _ fun fz₃ ρ₃ fl s₃ R₃ g₃ hfl => ?_)
    have fin : codeAny (model X.prog X.w) A (.whileLoop test body [] env) Rz s₃ := ih Rz ok R₃ fun fz' ρ' g s' R' g' hg => q _ _ _ _ R' ((g₂.trans g₃).trans g') hg
    rcases hf with rfl | rfl
    · have e : fl = .next := hfl
      subst e
      exact wpAny_pure ⟨rfl, fin⟩
    · have e : fl = .cont := hfl
      subst e
      exact wpAny_pure ⟨rfl, fin⟩
  | brk h1 h2 =>
    intro A fz kp kg ρ s Rz ok R q
    refine codeAny_of_tree ?_
    rw [Around.under_of_weight (by rfl) (by rfl)]
    show wpAny _ A ((whileTurn test body [] env).onRaise (fun x => do noteFrame x env; theTreesLotGoes x)) _ _ s
    refine wpAny_onRaise ?_
    simp only [whileTurn]
    refine wpAny_bind (h1 A fz kp kg ρ s ok R _ _ fun fz₂ ρ₂ b s₂ R₂ g₂ hb => ?_)
    subst hb
    simp only [if_true]
    refine wpAny_bind (h2 A fz₂ kp kg ρ₂ s₂ ok R₂ _ _ fun fz₃ ρ₃ fl s₃ R₃ g₃ hfl => ?_)
    have e : fl = .brk := hfl
    subst e
    exact wpAny_pure (q _ _ _ _ R₃ (g₂.trans g₃) rfl)
  | ret h1 h2 =>
    intro A fz kp kg ρ s Rz ok R q
    refine codeAny_of_tree ?_
    rw [Around.under_of_weight (by rfl) (by rfl)]
    show wpAny _ A ((whileTurn test body [] env).onRaise (fun x => do noteFrame x env; theTreesLotGoes x)) _ _ s
    refine wpAny_onRaise ?_
    simp only [whileTurn]
    refine wpAny_bind (h1 A fz kp kg ρ s ok R _ _ fun fz₂ ρ₂ b s₂ R₂ g₂ hb => ?_)
    subst hb
    simp only [if_true]
    refine wpAny_bind (h2 A fz₂ kp kg ρ₂ s₂ ok R₂ _ _ fun fz₃ ρ₃ fl s₃ R₃ g₃ hfl => ?_)
    obtain ⟨w, rfl, hw⟩ := hfl
    exact wpAny_pure (q _ _ _ _ R₃ (g₂.trans g₃) ⟨w, rfl, hw⟩)
theorem ExS.while_ {test : Expr} {body : List Stmt} {pos : Pos} {f : MFlow} (h : WhileE X env d test body st f st') : ExS X env d (.While test body [] pos) st f st' :=
  fun A fz kp kg ρ s ok R Q E q => wpAny_While (h.code _ ok R fun fz' ρ' g s' R' g' hg => q _ _ _ _ R' g' hg)

-- try, where nothing is raised
theorem ExS.tryE {body : List Stmt} {h₀ : ExceptHandler} {hs : List ExceptHandler} {pos : Pos} {f : MFlow} (h : ExL X env d body st f st') : ExS X env d (.Try body (h₀ :: hs) [] [] pos) st f st' :=
  fun A fz kp kg ρ s ok R Q E q => wpAny_Try_except (h A fz kp kg ρ s ok R _ _ fun fz' ρ' fl s' R' g hfl => by
    cases fl with
    | next => exact wpAny_execs_nil (q _ _ _ _ R' g hfl)
    | brk => exact q _ _ _ _ R' g hfl
    | cont => exact q _ _ _ _ R' g hfl
    | ret v => exact q _ _ _ _ R' g hfl)
theorem FRel.grow {fz fz' : FH} {ρ ρ' : List Addr} (g : Grow fz ρ fz' ρ') {f : MFlow} {fl : Flow} (h : FRel fz ρ f fl) : FRel fz' ρ' f fl := by
  cases f with
  | next => exact h
  | brk => exact h
  | cont => exact h
  | ret v => obtain ⟨u, e, hu⟩ := h; exact ⟨u, e, VRel.grow g _ _ hu⟩
theorem ExS.tryF {body : List Stmt} {f₀ : Stmt} {fs : List Stmt} {pos : Pos} {f : MFlow} (h : ExL X env d body st f st₁) (hf : ExL X env d (f₀ :: fs) st₁ .next st') : ExS X env d (.Try body [] [] (f₀ :: fs) pos) st f st' :=
  fun A fz kp kg ρ s ok R Q E q => wpAny_Try_finally (h A fz kp kg ρ s ok R _ _ fun fz' ρ' fl s' R' g hfl => by
    have last : ∀ s'', Rel X env fz' kp kg ρ' st₁ s'' → ∀ E', wpAny (model X.prog X.w) A (execs (f₀ :: fs) env) (fun g s' => match g with | .next => Q fl s' | g => Q g s') E' s'' := fun s'' R'' E' =>
      hf A fz' kp kg ρ' s'' ok R'' _ _ fun fz₂ ρ₂ fl₂ s₂ R₂ g₂ h₂ => by
        have e : fl₂ = .next := h₂
        subst e
        exact q _ _ _ _ R₂ (g.trans g₂) (hfl.grow g₂)
    cases fl with
    | next => exact wpAny_execs_nil (last _ R' _)
    | brk => exact last _ R' _
    | cont => exact last _ R' _
    | ret v => exact last _ R' _)

-- a class is called
theorem AOk.make {A : Around} (h : AOk A (d + 1)) {args : Args} : AOk (A.under (.builtin "type.__call__" args)) d where
  h := h.h
  depth := by
    have := h.depth
    have hw : (Code.builtin "type.__call__" args).weight ≤ 1 := by
      have e : (Code.builtin "type.__call__" args).weight = 0 + (if (Code.builtin "type.__call__" args).isCreation then 1 else 0) + 0 + 0 := by rfl
      rw [e]; split <;> omega
    show A.depth + _ + d < 1000
    omega
  units := by
    have := h.units
    have e : (Code.builtin "type.__call__" args).cUnits = 1 := rfl
    show A.units + (Code.builtin "type.__call__" args).cUnits + 20 * d + 200 < 9900
    rw [e]; omega

theorem CallsTo.make (XO : SXOk X) {C fI : Addr} {args : List MVal} {kw : List (Str × MVal)} (hm : makesIn X.K C = true) (hi : findIn X.K (.ref C) "__init__" = some (some (.ref fI))) (hf : typeIn X.K (.ref fI) = some (.type "function"))
    (h : CallsTo X d (.obj (.ref fI)) (.insr C led.length :: args) kw (led ++ [.dct []]) .none led') : CallsTo X (d + 1) (.obj (.ref C)) args kw led (.insr C led.length) led' := by
  intro A fz kp kg ρ s fv vs kvs Rz ok R hfv hv hk q
  simp only [VRel] at hfv
  subst hfv
  have KI := R.kin XO
  obtain ⟨hh, g, dr, t, os⟩ := s
  refine make_core (makes_of KI hm) (looks_findIn KI hi) (fun self => bind_fn KI self hf) (.inl rfl) ?_
  have hn : hh.get? hh.objs.size = none := none_of_size
  have R₁ := R.add (h' := hh.push emptyDict) (tk := t) (new := [hh.objs.size]) (objs := [.dct []]) (fun _ _ e => Heap.get?_push_of_some _ e) rfl (by simp) (fun b hb => by simp at hb; subst hb; exact hn) (fun i b m' e1 e2 => by
      cases i with
      | zero => simp at e1 e2; subst e1; subst e2; exact ⟨emptyDict, Heap.get?_push_size _ rfl, #[], 0, rfl, rfl⟩
      | succ i => simp at e1)
  have hsz : (hh.push emptyDict).objs.size = hh.objs.size + 1 := by rw [Heap.size_push]
  have hn₁ : (hh.push emptyDict).get? (hh.objs.size + 1) = none := hsz ▸ none_of_size
  have R₂ := R₁.new (h' := (hh.push emptyDict).push (instObj C hh.objs.size)) (tk := t) (a := hh.objs.size + 1) (o := instObj C hh.objs.size) hn₁ (fun _ _ e => Heap.get?_push_of_some _ e) (hsz ▸ Heap.get?_push_size _ rfl)
  have g₁ : Grow fz ρ fz (ρ ++ [hh.objs.size]) := grow_ext
  have g₂ : Grow fz (ρ ++ [hh.objs.size]) (upd fz (hh.objs.size + 1) (instObj C hh.objs.size)) (ρ ++ [hh.objs.size]) := grow_upd (R₁.fz_none hn₁)
  have hself : VRel (upd fz (hh.objs.size + 1) (instObj C hh.objs.size)) (ρ ++ [hh.objs.size]) (.insr C led.length) (.ref (hh.objs.size + 1)) := by
    simp only [VRel]
    refine ⟨_, hh.objs.size, rfl, upd_self .., ?_⟩
    rw [List.getElem?_append_right (by have := R.len; omega)]
    have := R.len
    simp [this]
  have g := g₁.trans g₂
  refine h _ _ kp kg _ _ (.ref fI) _ kvs _ ok.make R₂ (by simp [VRel]) ?_ ⟨hk.1, VRels.grow g _ _ hk.2⟩ fun fz' ρ' v s' R' g' hv' => ?_
  · simp only [VRels]
    exact ⟨_, _, rfl, hself, VRels.grow g _ _ hv⟩
  · simp only [VRel] at hv'
    subst hv'
    exact ⟨rfl, q _ _ _ _ R' (g.trans g') (VRel.grow g' _ _ hself)⟩
end
end Mine
end
section
open PySem PySem.W PySem.Calls PyProof.Rows
set_option linter.all false
set_option maxRecDepth 100000
namespace Mine

section
variable {X : SX} {env cenv : Env} {d : Nat} {st st' st₁ st₂ st₃ : St} {fz kp : FH} {kg : Nat → Option GenState} {ρ : List Addr} {led led' : List MObj} {s : Shared} {A : Around}

/-- an object apart is frozen -/
theorem Rel.freeze (R : Rel X env fz kp kg ρ st s) {a : Addr} {o : Obj} (p : Apart X env fz kp ρ a) (h : s.heap.get? a = some o) : Rel X env (Mine.upd fz a o) kp kg ρ st s :=
  { base := R.base
    tb := fun q hq => let ⟨ps, e, t⟩ := R.tb q hq; ⟨ps, e, t.1, t.2.grow (grow_upd (ρ := ρ) p.fz).1⟩
    hb := fun b o' e => by rw [upd_ne (fun q => by subst q; have := R.hb _ _ e; rw [p.fz] at this; cases this)]; exact R.hb b o' e
    ifz := fun b o' e => by
      by_cases hb : b = a
      · subst hb; rw [upd_self] at e; cases e; exact h
      · rw [upd_ne hb] at e; exact R.ifz b o' e
    ikp := R.ikp
    ikg := R.ikg
    len := R.len
    ild := fun i a' m e1 e2 => let ⟨o', e, h⟩ := R.ild i a' m e1 e2; ⟨o', e, ORel.grow (grow_upd p.fz) _ _ h⟩
    nd := R.nd
    off := fun b hb => ⟨by rw [upd_ne (a := a) (b := b) (fun q => by subst q; exact p.ρ hb)]; exact (R.off b hb).1, (R.off b hb).2⟩
    offT := fun q hq => ⟨by rw [upd_ne (p.tab q hq)]; exact (R.offT q hq).1, (R.offT q hq).2⟩
    dis := fun b o' e => by
      rw [upd_ne (fun q => by subst q; rw [p.kp] at e; cases e)]; exact R.dis b o' e
    iloc := let ⟨m, hns, h⟩ := R.iloc; ⟨m, hns, fun x v e => let ⟨u, e', r⟩ := h x v e; ⟨u, e', VRel.grow (grow_upd p.fz) _ _ r⟩⟩
    icell := R.icell
    offL := ⟨by rw [upd_ne (Ne.symm p.L)]; exact R.offL.1, R.offL.2⟩ }

theorem Apart.put {I D : Addr} {o : Obj} (a : Apart X env fz kp ρ D) (h : D ≠ I) : Apart X env fz (keepAt kp I o) ρ D where
  fz := a.fz
  kp := by unfold keepAt; rw [if_neg h]; exact a.kp
  ρ := a.ρ
  tab := a.tab
  L := a.L

inductive TestsE (X : SX) (env : Env) (d : Nat) : List Expr → St → Bool → St → Prop
  | nil {a : St} : TestsE X env d [] a true a
  | one {c : Expr} {a b : St} {r : Bool} : TsE X env d c a r b → TestsE X env d [c] a r b
theorem TestsE.wp {ifs : List Expr} {r : Bool} (h : TestsE X env d ifs st r st') : ∀ A fz kp kg ρ s, AOk A d → Rel X env fz kp kg ρ st s →
    WP X env A fz kp kg ρ (forIn ifs true fun c r => if r = true then do let ok ← isTrue c env (eval c env); pure (ForInStep.yield ok) else pure (ForInStep.yield r)) st' (fun _ _ b => b = r) s := by
  intro A fz kp kg ρ s ok R Q E q
  cases h with
  | nil => exact wpAny_tests_nil (q _ _ _ _ R (.refl _ _) rfl)
  | one h => exact wpAny_tests_one (h A fz kp kg ρ s ok R Q E q)

inductive CompE (X : SX) (env : Env) (d : Nat) (target : Expr) (ifs : List Expr) (elt : Expr) : List MVal → St → List MVal → St → Prop
  | nil {a : St} : CompE X env d target ifs elt [] a [] a
  | skip {x : MVal} {r ys : List MVal} {a b c e : St} : StoreE X env d target x a b → TestsE X env d ifs b false c → CompE X env d target ifs elt r c ys e → CompE X env d target ifs elt (x :: r) a ys e
  | elt {x y : MVal} {r ys : List MVal} {a b c c' e : St} : StoreE X env d target x a b → TestsE X env d ifs b true c → EvE X env d elt c y c' → CompE X env d target ifs elt r c' ys e → CompE X env d target ifs elt (x :: r) a (y :: ys) e
  | weak {r ys : List MVal} {a a' e : St} : Sub a' a → CompE X env d target ifs elt r a' ys e → CompE X env d target ifs elt r a ys e

theorem CompE.code {target iter elt : Expr} {ifs : List Expr} {scope : Scope} {pos : Pos} {xs ys : List MVal} (h : CompE X cenv d target ifs elt xs st ys st') :
    ∀ {A fz kp kg ρ s I o D arr ep done} (R : Result → Shared → Prop), AOk A d → Rel X cenv fz kp kg ρ st s → Apart X cenv fz kp ρ I → s.heap.get? I = some o → IterRel fz ρ xs o →
      Apart X cenv fz kp ρ D → D ≠ I → s.heap.get? D = some (lstO arr ep) → VRels fz ρ done arr.toList → done.length + xs.length ≤ 10000000 →
      (∀ fz' ρ' s' arr' ep', Rel X cenv fz' kp kg ρ' st' s' → Grow fz ρ fz' ρ' → Apart X cenv fz' kp ρ' D → s'.heap.get? D = some (lstO arr' ep') → VRels fz' ρ' (done ++ ys) arr'.toList → R (.ok .next) s') →
      codeAny (model X.prog X.w) A (.compLoop (.ListComp elt [⟨target, iter, ifs, 0⟩] scope pos) 0 (.ref I) (.ref D) cenv) R s := by
  induction h with
  | nil =>
    intro A fz kp kg ρ s I o D arr ep done Rz ok R a hI hit aD hne hD hdone hz q
    refine codeAny_of_tree ?_
    rw [Around.under_of_weight (by rfl) (by rfl)]
    show wpAny _ A ((compTurn (.ListComp elt [⟨target, iter, ifs, 0⟩] scope pos) 0 (.ref I) (.ref D) cenv).onRaise (fun x => do noteFrame x cenv; theTreesLotGoes x)) _ _ s
    refine wpAny_onRaise ?_
    rw [compTurn_list]
    refine wpAny_bind (wpAny_standAt (wpAny_bind (next_nil ok.h R.toLRel hI hit fun h' hx => ?_)))
    refine wpAny_pure (q _ _ _ _ _ (R.ext (tk := s.toks) a hx) (.refl _ _) aD (hx _ _ hne hD) (by simpa using hdone))
  | weak hs h ih => exact fun Rz ok R a hI hit aD hne hD hdone hz q => ih Rz ok (R.sub hs) a hI hit aD hne hD hdone hz q
  | skip h1 h2 h3 ih =>
    intro A fz kp kg ρ s I o D arr ep done Rz ok R a hI hit aD hne hD hdone hz q
    refine codeAny_of_tree ?_
    rw [Around.under_of_weight (by rfl) (by rfl)]
    show wpAny _ A ((compTurn (.ListComp elt [⟨target, iter, ifs, 0⟩] scope pos) 0 (.ref I) (.ref D) cenv).onRaise (fun x => do noteFrame x cenv; theTreesLotGoes x)) _ _ s
    refine wpAny_onRaise ?_
    rw [compTurn_list]
    refine wpAny_bind (wpAny_standAt (wpAny_bind (next_cons R.toLRel hI hit fun h' tk u o' hs ho hit' hu => ?_)))
    refine wpAny_bind (owned_go (s := { s with heap := h', toks := tk }) ho hit' ?_)
    have hD' : h'.get? D = some (lstO arr ep) := (hs.2 _ hne).trans hD
    have R₁ := ((R.same (tk := tk) a hs).put a ho).put (aD.put hne) hD'
    refine wpAny_bind (h1 A fz _ kg ρ _ u ok R₁ hu _ _ fun fz₂ ρ₂ _ s₂ R₂ g₂ _ => ?_)
    refine wpAny_bind (h2.wp A fz₂ _ kg ρ₂ s₂ ok R₂ _ _ fun fz₃ ρ₃ b s₃ R₃ g₃ hb => ?_)
    subst hb
    obtain ⟨R₄, aD₄, hD₄⟩ := R₃.unput (aD.put hne).kp
    obtain ⟨R₅, a₅, hI₅⟩ := R₄.unput a.kp
    have aD₅ : Apart X cenv fz₃ kp ρ₃ D := ⟨aD₄.fz, aD.kp, aD₄.ρ, aD₄.tab, aD₄.L⟩
    refine wpAny_pure ⟨rfl, ih Rz ok R₅ a₅ hI₅ (hit'.grow (g₂.trans g₃)) aD₅ hne hD₄ (VRels.grow (g₂.trans g₃) _ _ hdone) (by simp only [List.length_cons] at hz; omega) fun fz' ρ' s' arr' ep' R' g' aD' hD' hv' => q _ _ _ _ _ R' ((g₂.trans g₃).trans g') aD' hD' hv'⟩
  | elt h1 h2 h3 h4 ih =>
    intro A fz kp kg ρ s I o D arr ep done Rz ok R a hI hit aD hne hD hdone hz q
    refine codeAny_of_tree ?_
    rw [Around.under_of_weight (by rfl) (by rfl)]
    show wpAny _ A ((compTurn (.ListComp elt [⟨target, iter, ifs, 0⟩] scope pos) 0 (.ref I) (.ref D) cenv).onRaise (fun x => do noteFrame x cenv; theTreesLotGoes x)) _ _ s
    refine wpAny_onRaise ?_
    rw [compTurn_list]
    refine wpAny_bind (wpAny_standAt (wpAny_bind (next_cons R.toLRel hI hit fun h' tk u o' hs ho hit' hu => ?_)))
    refine wpAny_bind (owned_go (s := { s with heap := h', toks := tk }) ho hit' ?_)
    have hD' : h'.get? D = some (lstO arr ep) := (hs.2 _ hne).trans hD
    have R₁ := ((R.same (tk := tk) a hs).put a ho).put (aD.put hne) hD'
    refine wpAny_bind (h1 A fz _ kg ρ _ u ok R₁ hu _ _ fun fz₂ ρ₂ _ s₂ R₂ g₂ _ => ?_)
    refine wpAny_bind (h2.wp A fz₂ _ kg ρ₂ s₂ ok R₂ _ _ fun fz₃ ρ₃ b s₃ R₃ g₃ hb => ?_)
    subst hb
    refine wpAny_bind (wpAny_bind (h3 A fz₃ _ kg ρ₃ s₃ ok R₃ _ _ fun fz₄ ρ₄ y s₄ R₄ g₄ hy => wpAny_bind ?_))
    obtain ⟨R₅, aD₅, hD₅⟩ := R₄.unput (aD.put hne).kp
    have g := (g₂.trans g₃).trans g₄
    have hdone' := VRels.grow g _ _ hdone
    have hsz : arr.size = done.length := by simpa using VRels.length hdone
    refine wpAny_list_append_plain (items := arr) ⟨ep, hD₅⟩ (fun h₆ ⟨n, hp⟩ hs₆ => wpAny_pure (wpAny_pure ⟨rfl, ?_⟩)) (by rw [sizeLine_eq]; omega)
    obtain ⟨R₇, a₇, hI₇⟩ := (R₅.same (tk := s₄.toks) aD₅ hs₆).unput a.kp
    have aD₇ : Apart X cenv fz₄ kp ρ₄ D := ⟨aD₅.fz, aD.kp, aD₅.ρ, aD₅.tab, aD₅.L⟩
    refine ih Rz ok R₇ a₇ hI₇ (hit'.grow g) aD₇ hne hp (done := done ++ [_]) ?_ (by simp only [List.length_append, List.length_cons, List.length_nil] at hz ⊢; omega) fun fz' ρ' s' arr' ep' R' g' aD' hD' hv' => q _ _ _ _ _ R' (g.trans g') aD' hD' (by simpa using hv')
    rw [Array.toList_push]
    exact VRels.append hdone' (by simp only [VRels]; exact ⟨_, _, rfl, hy, rfl⟩)

/-- a comprehension, item by item -/
theorem CompE.mapF {target elt : Expr} {ifs : List Expr} (Inv : St → Prop) (step : MVal → St → St) (p : MVal → Bool) (g : MVal → MVal) : ∀ (xs : List MVal),
    (∀ x ∈ xs, ∀ st, Inv st → StoreE X env d target x st (step x st) ∧ Inv (step x st) ∧ TestsE X env d ifs (step x st) (p x) (step x st) ∧ (p x = true → EvE X env d elt (step x st) (g x) (step x st))) →
    ∀ st, Inv st → ∃ st', CompE X env d target ifs elt xs st ((xs.filter p).map g) st' ∧ Inv st'
  | [], _, st, hi => ⟨st, .nil, hi⟩
  | x :: xs, h, st, hi => by
    obtain ⟨h1, h2, h3, h4⟩ := h x List.mem_cons_self st hi
    obtain ⟨st', h5, h6⟩ := CompE.mapF Inv step p g xs (fun y hy => h y (List.mem_cons_of_mem _ hy)) (step x st) h2
    refine ⟨st', ?_, h6⟩
    rw [List.filter_cons]
    cases hp : p x with
    | true => rw [hp] at h3; rw [if_pos rfl, List.map_cons]; exact .elt h1 h3 (h4 hp) h5
    | false => rw [hp] at h3; rw [if_neg Bool.false_ne_true]; exact .skip h1 h3 h5

theorem IterRel.self {I : Addr} {o : Obj} {rest : List MVal} (R : LRel X fz kp kg ρ led s) (hI : s.heap.get? I = some o) (h : IterRel fz ρ rest o) {Q : Value → Shared → Prop} {E : Value → Shared → Prop} (q : Q (.ref I) s) : wpAny (model X.prog X.w) A (pyIter (.ref I)) Q E s := by
  cases h with
  | list h1 h2 h3 h4 => exact wpAny_pyIter_listiter ⟨_, hI, h3, h4⟩ q
  | tup h1 h2 h3 h4 => exact wpAny_pyIter_tupleiter ⟨_, hI, h3, h4⟩ q
  | range => exact wpAny_pyIter_rangeiter hI q

/-- a list comprehension with one «for»: its list is frozen -/
theorem EvE.listcomp {elt target iter : Expr} {ifs : List Expr} {scope : Scope} {pos : Pos} {v : MVal} {xs ys : List MVal} {cs : List (Str × Nat)} (O : EnvOk env) (h1 : EvE X env d iter st v st₁) (h2 : IterE X env d v xs st₁)
    (hcs : csOf st.cells scope.names [] = some cs) (h3 : ∀ C cl, ∃ st₂, CompE X (compEnvC scope cl C env) d target ifs elt xs ⟨[], cs, st₁.led⟩ ys st₂ ∧ st₂.led = led') (hz : xs.length ≤ 10000000 := by simp)
    (hkind : scope.kind = .function := by rfl) (hcell : (scope.names.all fun x => x.2 != .cell) = true := by rfl) (hnm : (scope.names.all fun x => x.2 != .local || decide (scope.names.lookup x.1 = some .local)) = true := by rfl)
    (hs : ∀ x, foldedSetIterable iter env x = pure x := by intro _; rfl) :
    EvE X env d (.ListComp elt [⟨target, iter, ifs, 0⟩] scope pos) st (.lst ys) { st₁ with led := led' } :=
  fun A fz kp kg ρ s ok R Q E q => by
    have hcell' : ∀ x ∈ scope.names, x.2 ≠ .cell := fun x hx e => by
      have := List.all_eq_true.mp hcell x hx
      rw [e] at this
      exact absurd this (by decide)
    have hnames : ∀ x ∈ scope.names, x.2 = .local → scope.names.lookup x.1 = some .local := fun x hx e => by
      have := List.all_eq_true.mp hnm x hx
      rw [e] at this
      simpa using this
    rw [eval_ListComp]
    show wpAny _ A (comprehension (.ListComp elt [⟨target, iter, ifs, 0⟩] scope pos) scope env (firstIterPos [⟨target, iter, ifs, 0⟩] pos) (newList []) false (eval iter env) none) Q E s
    obtain ⟨cl, e1, hcr⟩ := R.clos scope.names [] [] cs rfl hcs
    refine wpAny_comprehension_free (use := none) rfl hs (closureFor_is e1) hkind hnames (h1 A fz kp kg ρ s ok R _ _ fun fz₁ ρ₁ va s₁ R₁ g₁ r₁ => h2 A fz₁ kp kg ρ₁ s₁ va _ _ ok R₁ r₁ fun I o h' tk hn hk hI hit => ?_)
    -- the new list
    refine wpAny_newObj_type (wpAny_newFunctionEnv hcell' (by intro y hy; simp at hy) (fun h₄ hns₄ hsb₄ => ?_) hkind)
    dsimp only at hns₄ hsb₄ ⊢
    have R₂ := R₁.keep (tk := tk) hk
    generalize hH3 : h'.push { cls := .type "list", dict := none, data := .seq ([] : List Value).toArray } = H3 at hns₄ hsb₄ ⊢
    have k3 : ∀ b ob, h'.get? b = some ob → H3.get? b = some ob := fun b ob e => hH3 ▸ Heap.get?_push_of_some _ e
    have hD3 : H3.get? h'.objs.size = some (lstO #[] 0) := hH3 ▸ Heap.get?_push_size _ rfl
    have hsz3 : H3.objs.size = h'.objs.size + 1 := by rw [← hH3, Heap.size_push]
    have k4 : ∀ b ob, H3.get? b = some ob → h₄.get? b = some ob := fun b ob e => hsb₄.extBut b ob (Nat.ne_of_lt (Heap.lt_size e)) (Heap.get?_push_of_some _ e)
    have R₄ := R₂.keep (h' := h₄) (tk := tk + ([] : List (Str × Value)).length) fun b ob e => k4 _ _ (k3 _ _ e)
    obtain ⟨oL, eL, LH⟩ := R₄.hide
    have hC : ∀ {a : Addr} {ob : Obj}, h'.get? a = some ob → a ≠ H3.objs.size := fun e q => by
      have := Heap.lt_size e
      rw [q, hsz3] at this
      exact absurd this (by simp)
    have nC : ({ s₁ with heap := h', toks := tk } : Shared).heap.get? H3.objs.size = none := Heap.get?_none_of_le (by show h'.objs.size ≤ _; omega)
    have nD : ({ s₁ with heap := h', toks := tk } : Shared).heap.get? h'.objs.size = none := none_of_size
    have kpE_none : ∀ a, ({ s₁ with heap := h', toks := tk } : Shared).heap.get? a = none → (fun b => if b = env.locals then some oL else kp b) a = none := fun a ha => by
      dsimp only
      rw [if_neg (fun q => by obtain ⟨ob, e⟩ := R₂.ns_some; rw [← q, ha] at e; cases e)]
      exact R₂.kp_none ha
    have tabs_ne : ∀ a, ({ s₁ with heap := h', toks := tk } : Shared).heap.get? a = none → ∀ q ∈ X.tabs, q.2 ≠ a := fun a ha q hq e => by
      obtain ⟨ps, e', _⟩ := R₂.tb q hq
      rw [e, ha] at e'; cases e'
    have RC : Rel X (compEnvC scope cl H3.objs.size env) fz₁ (fun b => if b = env.locals then some oL else kp b) kg ρ₁ ⟨[], cs, st₁.led⟩ { s₁ with heap := h₄, toks := tk + ([] : List (Str × Value)).length } :=
      { LH with
        iloc := ⟨_, hns₄, fun x v e => by cases e⟩
        icell := fun x i e => CRel.look (CRel.grow g₁ _ _ hcr) e
        offL := ⟨R₂.fz_none nC, kpE_none _ nC, R₂.notin nC, tabs_ne _ nC⟩ }
    have nI : s₁.heap.get? I = none := hn
    have aI : Apart X (compEnvC scope cl H3.objs.size env) fz₁ (fun b => if b = env.locals then some oL else kp b) ρ₁ I :=
      { fz := R₁.fz_none nI
        kp := by
          show (if I = env.locals then some oL else kp I) = none
          rw [if_neg (fun q => by obtain ⟨ob, e⟩ := R₁.ns_some; rw [← q, nI] at e; cases e)]
          exact R₁.kp_none nI
        ρ := R₁.notin nI
        tab := fun q hq e => by
          obtain ⟨ps, e', _⟩ := R₁.tb q hq
          rw [e, nI] at e'; cases e'
        L := hC hI }
    have aD : Apart X (compEnvC scope cl H3.objs.size env) fz₁ (fun b => if b = env.locals then some oL else kp b) ρ₁ h'.objs.size :=
      { fz := R₂.fz_none nD
        kp := kpE_none _ nD
        ρ := R₂.notin nD
        tab := tabs_ne _ nD
        L := by show h'.objs.size ≠ H3.objs.size; omega }
    have hDI : h'.objs.size ≠ I := fun q => by
      have := Heap.lt_size hI
      rw [← q] at this
      exact Nat.lt_irrefl _ this
    have loop : codeAny (model X.prog X.w) A (.compLoop (.ListComp elt [⟨target, iter, ifs, 0⟩] scope pos) 0 (.ref I) (.ref h'.objs.size) (compEnvC scope cl H3.objs.size env))
        (compPost (model X.prog X.w) A E none Q (.ref h'.objs.size) H3.objs.size) { s₁ with heap := h₄, toks := tk + ([] : List (Str × Value)).length } := by
      obtain ⟨st₂, h3', e3⟩ := h3 H3.objs.size cl
      refine h3'.code _ ok RC aI (k4 _ _ (k3 _ _ hI)) hit aD hDI (k4 _ _ hD3) (done := []) (by simp [VRels]) (by simpa using hz) fun fz' ρ' s' arr' ep' R' g' aD' hD' hv' => ?_
      obtain ⟨m', hn', _⟩ := R'.iloc
      refine ⟨m', hn', fun h₅ hs₅ => ?_⟩
      have R'' := R'.freeze aD' hD'
      have g'' : Grow fz' ρ' _ ρ' := grow_upd (o := lstO arr' ep') aD'.fz
      have L₅ := R''.toLRel.same (tk := s'.toks) hs₅ R''.offL.1 R''.offL.2.1 R''.offL.2.2.1 R''.offL.2.2.2
      rw [e3] at L₅
      refine q _ _ _ _ (R₄.back eL L₅ (g'.trans g'')) ((g₁.trans g').trans g'') ?_
      simp only [VRel]
      exact ⟨_, arr', ep', rfl, upd_self .., VRels.grow g'' _ _ (by simpa using hv')⟩
    exact codeAny_compStart_list loop (IterRel.self RC.toLRel (k4 _ _ (k3 _ _ hI)) hit loop)
end
end Mine
end
section
open PySem PySem.W PySem.Calls PyProof.Rows
set_option linter.all false
set_option maxRecDepth 100000
namespace Mine

theorem genGa : Slot "generator" "__getattribute__" "object.__getattribute__" :=
  .of (owner := "object") (n := "__getattribute__") (by rw [typeLookup_type, builtinLookup_eq_fast]; kernel_rfl) (by decide +kernel) (by decide +kernel) (by decide +kernel)
    (by first | exact .inl (by decide +kernel) | exact .inr (by decide +kernel)) (by rw [isSubtype_type]; kernel_rfl)
theorem genClass : typeLookup (.type "generator") "__class__" = pure (some (.builtin "object.__class__")) := by rw [typeLookup_type, builtinLookup_eq_fast]; kernel_rfl
theorem genOwner : isSubtype (.type "generator") (.type (".".intercalate ("object.__class__".cutAt '.').dropLast)) = pure true := by
  rw [F.owner_object_class, isSubtype_type]; kernel_rfl

section
variable {prog : Program} {w : World} {A : Around} {E : Value → Shared → Prop} {h : Heap} {g : Array GenState} {d : Drawn} {t : Nat} {os : OsState} {a : Addr} {o : Obj}

theorem genClassGet {R : Result → Shared → Prop} (hx : h.get? a = some o) (hc : o.cls = .type "generator") (hq : R (.ok (.ret (.type "generator"))) ⟨h, g, d, t, os⟩) :
    codeAny (model prog w) A (.call (.builtin "getset_descriptor.__get__") ⟨[.builtin "object.__class__", .ref a, .type "generator"], []⟩) R ⟨h, g, d, t, os⟩ := by
  have hT : (⟨h, g, d, t, os⟩ : Shared).TypeIs (.ref a) "generator" := ⟨_, hx, hc⟩
  have hT5 : (⟨h, g, d, t, os⟩ : Shared).TypeIs (.builtin "object.__class__") "getset_descriptor" := F.typeOf_object_class
  have f8 := genOwner
  refine codeAny_call_builtin F.slot_gs_get.plain F.entry_gs_get (F.slot_gs_get.check _ _ _ _ _ _ _ _ hT5 (F.args_gs_get _ _ _) ?_)
  repeat (any_goals (first | assumption | wp_step))
  refine ⟨Code.quiet_builtin _ (by decide +kernel), codeAny_builtin F.entry_object_class ?_⟩
  repeat (any_goals (first | assumption | wp_step))
theorem genClassEntry {tk : Tok} {Q : Fin → Shared → Prop} (hx : h.get? a = some o) (hc : o.cls = .type "generator") (hq : Q (.done (.ret (.type "generator"))) ⟨h, g, d, t, os⟩) :
    wpAny (model prog w) A (Builtin.«object.__getattribute__» ⟨[.ref a, .str "__class__" tk], []⟩) Q E ⟨h, g, d, t, os⟩ := by
  have hT : (⟨h, g, d, t, os⟩ : Shared).TypeIs (.ref a) "generator" := ⟨_, hx, hc⟩
  have hT5 : (⟨h, g, d, t, os⟩ : Shared).TypeIs (.builtin "object.__class__") "getset_descriptor" := F.typeOf_object_class
  have f4 := genClass
  have f5 := F.typeOf_object_class
  have f6 := F.slot_gs_get.lookup
  have f7 := F.slot_gs_set.lookup
  repeat (any_goals (first | assumption | wp_step))
  refine genClassGet hx hc ?_
  repeat (any_goals (first | assumption | wp_step))
theorem genClassCall {tk : Tok} {R : Result → Shared → Prop} (hx : h.get? a = some o) (hc : o.cls = .type "generator") (hq : R (.ok (.ret (.type "generator"))) ⟨h, g, d, t, os⟩) :
    codeAny (model prog w) A (.call (.builtin "object.__getattribute__") ⟨[.ref a, .str "__class__" tk], []⟩) R ⟨h, g, d, t, os⟩ :=
  codeAny_call_builtin genGa.plain F.entry_object_getattribute (genGa.check _ _ _ _ _ _ _ _ (show (⟨h, g, d, t, os⟩ : Shared).TypeIs (.ref a) "generator" from ⟨_, hx, hc⟩) (F.args_object_getattribute_2 _ _) (genClassEntry hx hc hq))
theorem genClassBy {tk : Tok} {Q : Value → Shared → Prop} (hx : h.get? a = some o) (hc : o.cls = .type "generator") (hq : Q (.type "generator") ⟨h, g, d, t, os⟩) : wpAny (model prog w) A (getAttrBy (.ref a) (.str "__class__" tk) false) Q E ⟨h, g, d, t, os⟩ := by
  have hT : (⟨h, g, d, t, os⟩ : Shared).TypeIs (.ref a) "generator" := ⟨_, hx, hc⟩
  have f2 := genGa.lookup
  have f3 := genGa.bind (.ref a)
  repeat (any_goals (first | assumption | wp_step))
  refine genClassCall hx hc ?_
  repeat (any_goals (first | assumption | wp_step))
theorem genClassAttr {Q : Option Value → Shared → Prop} (hx : h.get? a = some o) (hc : o.cls = .type "generator") (hq : Q (some (.type "generator")) ⟨h, g, d, t + 1, os⟩) : wpAny (model prog w) A (getAttr? (.ref a) "__class__") Q E ⟨h, g, d, t, os⟩ := by
  unfold getAttr? getAttrBy?
  repeat (any_goals (first | assumption | with_reducible apply genClassBy hx hc | wp_step))
theorem genIsiFalse {T : String} {dep : Int} {tk : Tok} {Q : Fin → Shared → Prop} (hx : h.get? a = some o) (hc : o.cls = .type "generator") (hne : (Value.type "generator" == Value.type T) = false) (hty : typeOf (.type T) = pure (.type "type"))
    (hsub : isSubtype (.type "generator") (.type T) = pure false) (hq : Q (.done (.ret (.bool false))) ⟨h, g, d, t + 1, os⟩) :
    wpAny (model prog w) A (Builtin.«isinstance.nested» ⟨[.ref a, .type T, .int dep tk], []⟩) Q E ⟨h, g, d, t, os⟩ := by
  have hT : (⟨h, g, d, t, os⟩ : Shared).TypeIs (.ref a) "generator" := ⟨_, hx, hc⟩
  repeat (any_goals (first | assumption | with_reducible apply genClassAttr hx hc | wp_step))
end
theorem genAnswers {a : Addr} {T : String} (hne : (Value.type "generator" == Value.type T) = false) (hty : typeOf (.type T) = pure (.type "type")) (hsub : isSubtype (.type "generator") (.type T) = pure false) :
    Answers (fun s => s.TypeIs (.ref a) "generator") (.ref a) (.type T) false :=
  fun _ _ _ _ _ _ s hs => by
    obtain ⟨h, g, d, t, os⟩ := s
    obtain ⟨⟨o, hx, hc⟩, hq⟩ := hs
    exact genIsiFalse hx hc hne hty hsub (hq (t + 1))

/-- the built-in type of a value -/
def MVal.ty : MVal → Option String
  | .none => some "NoneType"
  | .bool _ => some "bool"
  | .int _ => some "int"
  | .str _ => some "str"
  | .tup _ => some "tuple"
  | .lst _ => some "list"
  | .dct _ _ => some "dict"
  | .gen _ => some "generator"
  | _ => Option.none

section
variable {X : SX} {env : Env} {d : Nat} {st st' : St} {fz kp : FH} {kg : Nat → Option GenState} {ρ : List Addr} {led : List MObj} {s : Shared}
theorem typeIs_ty (R : LRel X fz kp kg ρ led s) {m : MVal} {T : String} {v : Value} (hT : m.ty = some T) (h : VRel fz ρ m v) : s.TypeIs v T := by
  cases m <;> simp only [MVal.ty, Option.some.injEq, reduceCtorEq] at hT <;> subst hT <;> simp only [VRel] at h
  case none => subst h; rfl
  case bool => subst h; rfl
  case int => obtain ⟨_, rfl⟩ := h; rfl
  case str => obtain ⟨_, rfl⟩ := h; rfl
  case tup => obtain ⟨a, _, rfl, h1, _⟩ := h; exact ⟨_, R.ifz _ _ h1, rfl⟩
  case lst => obtain ⟨a, _, _, rfl, h1, _⟩ := h; exact ⟨_, R.ifz _ _ h1, rfl⟩
  case dct => obtain ⟨a, _, _, rfl, h1, _⟩ := h; exact ⟨_, R.ifz _ _ h1, rfl⟩
  case gen => obtain ⟨a, _, _, rfl, h1⟩ := h; exact ⟨_, R.ifz _ _ h1, rfl⟩
theorem answers_ty {fz : FH} {ρ : List Addr} {m : MVal} {T C : String} {v : Value} {b : Bool} (hT : m.ty = some T) (h : VRel fz ρ m v) (hty : typeOf (.type C) = pure (.type "type")) (hsub : isSubtype (.type T) (.type C) = pure b) (hne : b = false → (Value.type T == Value.type C) = false) :
    Answers (fun s => s.TypeIs v T) v (.type C) b := by
  cases b with
  | true => exact Answers.of_true hty hsub
  | false =>
    have hne := hne rfl
    cases m <;> simp only [MVal.ty, Option.some.injEq, reduceCtorEq] at hT <;> subst hT <;> simp only [VRel] at h
    case none => subst h; exact Answers.of_false_none hne hty hsub
    case bool => subst h; exact Answers.of_false_bool hne hty hsub
    case int => obtain ⟨_, rfl⟩ := h; exact Answers.of_false_int hne hty hsub
    case str => obtain ⟨_, rfl⟩ := h; exact Answers.of_false_str hne hty hsub
    case tup => obtain ⟨a, _, rfl, h1, _⟩ := h; exact Answers.of_false_tuple hne hty hsub
    case lst => obtain ⟨a, _, _, rfl, h1, _⟩ := h; exact Answers.of_false_list hne hty hsub
    case dct => obtain ⟨a, _, _, rfl, h1, _⟩ := h; exact Answers.of_false_dict hne hty hsub
    case gen => obtain ⟨a, _, _, rfl, h1⟩ := h; exact genAnswers hne hty hsub
theorem opaque_ne {m : MVal} {T : String} {fz : FH} {ρ : List Addr} {v : Value} (hT : m.ty = some T) (h : VRel fz ρ m v) : v ≠ .builtin "__main__.__loader__#opaque" := by
  cases m <;> simp only [MVal.ty, Option.some.injEq, reduceCtorEq] at hT <;> subst hT <;> simp only [VRel] at h
  case none => subst h; nofun
  case bool => subst h; nofun
  case int => obtain ⟨_, rfl⟩ := h; nofun
  case str => obtain ⟨_, rfl⟩ := h; nofun
  case tup => obtain ⟨a, _, rfl, h1, _⟩ := h; nofun
  case lst => obtain ⟨a, _, _, rfl, h1, _⟩ := h; nofun
  case dct => obtain ⟨a, _, _, rfl, h1, _⟩ := h; nofun
  case gen => obtain ⟨a, _, _, rfl, h1⟩ := h; nofun

theorem AppE.isi {m : MVal} {T C : String} {b : Bool} (hT : m.ty = some T) (hsub : isSubtype (.type T) (.type C) = pure b) (hne : b = false → (Value.type T == Value.type C) = false) (hty : typeOf (.type C) = pure (.type "type")) :
    AppE X env d (.obj (.builtin "isinstance")) [m, .obj (.type C)] [] st (.bool b) st :=
  fun A fz kp kg ρ s fv us kvs ok R hf hv hk Q E q => by
    have e := kvs_nil hk; subst e
    simp only [VRel] at hf; subst hf
    simp only [VRels] at hv
    obtain ⟨x, r, rfl, h1, y, r', rfl, h2, rfl⟩ := hv
    simp only [VRel] at h2; subst h2
    refine call_isinstance (S := fun _ R s => s.TypeIs x T ∧ ∀ tk, R (.ok (.ret (.bool b))) { s with toks := tk }) (fun _ _ _ _ _ hs => isinstance_outer (answers_ty hT h1 hty hsub hne 0 0 _ _ _ _ _ hs) (opaque_ne hT h1)) ⟨typeIs_ty R.toLRel hT h1, fun tk => q _ _ _ _ (R.tk _) (.refl _ _) (by simp [VRel])⟩
end
end Mine
end
section
open PySem PySem.W PySem.Calls PyProof.Rows
set_option linter.all false
set_option maxRecDepth 100000
namespace Mine
section
variable {X : SX} {env : Env} {d : Nat} {st st' : St} {fz kp : FH} {kg : Nat → Option GenState} {ρ : List Addr} {led : List MObj} {s : Shared}
theorem AppE.isi2 {m : MVal} {T C₁ C₂ : String} {b₁ b₂ : Bool} (hT : m.ty = some T) (h1 : isSubtype (.type T) (.type C₁) = pure b₁) (n1 : b₁ = false → (Value.type T == Value.type C₁) = false) (t1 : typeOf (.type C₁) = pure (.type "type"))
    (h2 : isSubtype (.type T) (.type C₂) = pure b₂) (n2 : b₂ = false → (Value.type T == Value.type C₂) = false) (t2 : typeOf (.type C₂) = pure (.type "type")) :
    AppE X env d (.obj (.builtin "isinstance")) [m, .tup [.obj (.type C₁), .obj (.type C₂)]] [] st (.bool (b₁ || b₂)) st :=
  fun A fz kp kg ρ s fv us kvs ok R hf hv hk Q E q => by
    have e := kvs_nil hk; subst e
    simp only [VRel] at hf; subst hf
    simp only [VRels] at hv
    obtain ⟨x, r, rfl, hm, y, r', rfl, ht, rfl⟩ := hv
    simp only [VRel, VRels] at ht
    obtain ⟨a, arr, rfl, ha, u, l, hl, rfl, u', l', rfl, rfl, rfl⟩ := ht
    have he : arr = [Value.type C₁, Value.type C₂].toArray := by rw [← hl]
    refine IsiPair.tupleOf (cs := [.type C₁, .type C₂]) (vs := [b₁, b₂]) (.cons (answers_ty hT hm t1 h1 n1) (.cons (answers_ty hT hm t2 h2 n2) .nil)) (typeIs_ty R.toLRel hT hm) (by rw [← he]; exact R.ifz _ _ ha) fun tk => ?_
    have eb : ([b₁, b₂].any id) = (b₁ || b₂) := by simp
    rw [eb]
    exact q _ _ _ _ (R.tk _) (.refl _ _) (by simp [VRel])

/-- no made object of a class of the program's own -/
theorem AppE.isiCls (XO : SXOk X) {m : MVal} {T : String} {C : Addr} (hT : m.ty = some T) (hg : T ≠ "generator") (e : isNotIn X.K T C = true) :
    AppE X env d (.obj (.builtin "isinstance")) [m, .obj (.ref C)] [] st (.bool false) st :=
  fun A fz kp kg ρ s fv us kvs ok R hf hv hk Q E q => by
    have ek := kvs_nil hk; subst ek
    simp only [VRel] at hf; subst hf
    simp only [VRels] at hv
    obtain ⟨x, r, rfl, hm, y, r', rfl, hC, rfl⟩ := hv
    simp only [VRel] at hC; subst hC
    have fin := q fz ρ (.bool false) { s with toks := s.toks + 1 } (R.tk _) (.refl _ _) (by simp [VRel])
    have KI := R.kin XO
    cases m <;> simp only [MVal.ty, Option.some.injEq, reduceCtorEq] at hT <;> subst hT <;> simp only [VRel] at hm
    case none => subst hm; exact isn_call (P := fun _ => True) KI (fun M => Looks.of_pure rfl) e nofun trivial none_cls fin
    case bool => subst hm; exact isn_call (P := fun _ => True) KI (fun M => Looks.of_pure rfl) e nofun trivial bool_cls fin
    case int => obtain ⟨_, rfl⟩ := hm; exact isn_call (P := fun _ => True) KI (fun M => Looks.of_pure rfl) e nofun trivial int_cls fin
    case str => obtain ⟨_, rfl⟩ := hm; exact isn_call (P := fun _ => True) KI (fun M => Looks.of_pure rfl) e nofun trivial str_cls fin
    case tup =>
      obtain ⟨a, _, rfl, h1, _⟩ := hm
      have h2 := R.ifz _ _ h1
      exact isn_call (P := fun h => ∃ o, h.get? a = some o ∧ o.cls = .type "tuple") KI (fun M => (Looks.ld (part := none) h2).andThen .now) e nofun ⟨_, h2, rfl⟩ tuple_cls fin
    case lst =>
      obtain ⟨a, _, _, rfl, h1, _⟩ := hm
      have h2 := R.ifz _ _ h1
      exact isn_call (P := fun h => ∃ o, h.get? a = some o ∧ o.cls = .type "list") KI (fun M => (Looks.ld (part := none) h2).andThen .now) e nofun ⟨_, h2, rfl⟩ list_cls fin
    case dct =>
      obtain ⟨a, _, _, rfl, h1, _⟩ := hm
      have h2 := R.ifz _ _ h1
      exact isn_call (P := fun h => ∃ o, h.get? a = some o ∧ o.cls = .type "dict") KI (fun M => (Looks.ld (part := none) h2).andThen .now) e nofun ⟨_, h2, rfl⟩ dict_cls fin
    case gen => exact absurd rfl hg
end

section
variable {prog : Program} {w : World} {A : Around} {E : Value → Shared → Prop} {h : Heap} {g : Array GenState} {d : Drawn} {t : Nat} {os : OsState} {a : Addr} {o : Obj}
theorem lkAppend : typeLookup (.type "list") "append" = pure (some (.builtin "list.append")) := by rw [typeLookup_type, builtinLookup_eq_fast]; kernel_rfl
theorem mdGet : Slot "method_descriptor" "__get__" "method_descriptor.__get__" :=
  .of (owner := "method_descriptor") (n := "__get__") (by rw [typeLookup_type, builtinLookup_eq_fast]; kernel_rfl) (by decide +kernel) (by decide +kernel) (by decide +kernel)
    (by first | exact .inl (by decide +kernel) | exact .inr (by decide +kernel)) (by rw [isSubtype_type]; kernel_rfl)
theorem mdSet : typeLookup (.type "method_descriptor") "__set__" = pure none := by rw [typeLookup_type, builtinLookup_eq_fast]; kernel_rfl
theorem mdDel : typeLookup (.type "method_descriptor") "__delete__" = pure none := by rw [typeLookup_type, builtinLookup_eq_fast]; kernel_rfl
theorem mdArgs (a b c : Value) : argsOk "method_descriptor.__get__" ⟨[a, b, c], []⟩ := by unfold argsOk; kernel_rfl
theorem mdEntry : entryFor table "method_descriptor.__get__" = some Builtin.«method_descriptor.__get__» := entryFor_of_tree (by kernel_rfl)
theorem tyAppend : typeOf (.builtin "list.append") = pure (.type "method_descriptor") := by kernel_rfl
theorem ownAppend : isSubtype (.type "list") (.type (".".intercalate ("list.append".cutAt '.').dropLast)) = pure true := by
  have e0 : "list.append".cutAt '.' = ["list", "append"] := by first | rfl | decide +kernel
  have e1 : (".".intercalate ("list.append".cutAt '.').dropLast) = "list" := by rw [e0]; decide +kernel
  rw [e1, isSubtype_type]; kernel_rfl
theorem mdRun {arr : Array Value} {ep : Nat} {Q : Fin → Shared → Prop} (hx : h.get? a = some (lstO arr ep)) (hq : Q (.done (.ret (.ref h.objs.size))) ⟨h.push { cls := .type "builtin_function_or_method", data := .fields #[.builtin "list.append", .ref a] }, g, d, t, os⟩) :
    wpAny (model prog w) A (Builtin.«method_descriptor.__get__» ⟨[.builtin "list.append", .ref a, .type "list"], []⟩) Q E ⟨h, g, d, t, os⟩ := by
  have hT : (⟨h, g, d, t, os⟩ : Shared).TypeIs (.ref a) "list" := ⟨_, hx, rfl⟩
  have f5 := tyAppend
  have f6 := ownAppend
  repeat (any_goals (first | assumption | wp_step))
theorem mdCall {arr : Array Value} {ep : Nat} {R : Result → Shared → Prop} (hx : h.get? a = some (lstO arr ep)) (hq : R (.ok (.ret (.ref h.objs.size))) ⟨h.push { cls := .type "builtin_function_or_method", data := .fields #[.builtin "list.append", .ref a] }, g, d, t, os⟩) :
    codeAny (model prog w) A (.call (.builtin "method_descriptor.__get__") ⟨[.builtin "list.append", .ref a, .type "list"], []⟩) R ⟨h, g, d, t, os⟩ :=
  codeAny_call_builtin mdGet.plain mdEntry (mdGet.check _ _ _ _ _ _ _ _ (show (⟨h, g, d, t, os⟩ : Shared).TypeIs (.builtin "list.append") "method_descriptor" from tyAppend) (mdArgs _ _ _) (mdRun hx hq))
theorem bmEntry {arr : Array Value} {ep : Nat} {tk : Tok} {Q : Fin → Shared → Prop} (hx : h.get? a = some (lstO arr ep)) (hq : Q (.done (.ret (.ref h.objs.size))) ⟨h.push { cls := .type "builtin_function_or_method", data := .fields #[.builtin "list.append", .ref a] }, g, d, t, os⟩) :
    wpAny (model prog w) A (Builtin.«object.__getattribute__» ⟨[.ref a, .str "append" tk], []⟩) Q E ⟨h, g, d, t, os⟩ := by
  have hT : (⟨h, g, d, t, os⟩ : Shared).TypeIs (.ref a) "list" := ⟨_, hx, rfl⟩
  have f4 := lkAppend
  have f5 := tyAppend
  have f6 := mdGet.lookup
  have f7 := mdSet
  have f8 := mdDel
  repeat (any_goals (first | assumption | wp_step))
  refine mdCall hx ?_
  repeat (any_goals (first | assumption | wp_step))
theorem bmGa {arr : Array Value} {ep : Nat} {tk : Tok} {R : Result → Shared → Prop} (hx : h.get? a = some (lstO arr ep)) (hq : R (.ok (.ret (.ref h.objs.size))) ⟨h.push { cls := .type "builtin_function_or_method", data := .fields #[.builtin "list.append", .ref a] }, g, d, t, os⟩) :
    codeAny (model prog w) A (.call (.builtin "list.__getattribute__") ⟨[.ref a, .str "append" tk], []⟩) R ⟨h, g, d, t, os⟩ :=
  codeAny_call_builtin F.slot_list_getattribute.plain F.entry_list_ga (F.slot_list_getattribute.check _ _ _ _ _ _ _ _ (show (⟨h, g, d, t, os⟩ : Shared).TypeIs (.ref a) "list" from ⟨_, hx, rfl⟩) (F.args_list_getattribute_2 _ _) (bmEntry hx hq))
theorem bmGet {arr : Array Value} {ep : Nat} {expr : Bool} {Q : Value → Shared → Prop} (hx : h.get? a = some (lstO arr ep)) (hq : Q (.ref h.objs.size) ⟨h.push { cls := .type "builtin_function_or_method", data := .fields #[.builtin "list.append", .ref a] }, g, d, t + 1, os⟩) :
    wpAny (model prog w) A (getAttr (.ref a) "append" expr) Q E ⟨h, g, d, t, os⟩ := by
  have hT : (⟨h, g, d, t, os⟩ : Shared).TypeIs (.ref a) "list" := ⟨_, hx, rfl⟩
  have f2 := F.slot_list_getattribute.lookup
  have f3 := F.slot_list_getattribute.bind (.ref a)
  have f4 : (expr && onTheHeap (Value.builtin "list.__getattribute__")) = false := by cases expr <;> rfl
  have hne : ¬ ((expr && onTheHeap (Value.builtin "list.__getattribute__")) = true) := by rw [f4]; exact Bool.false_ne_true
  unfold getAttr getAttrBy
  repeat (any_goals (first | assumption | wp_step))
  all_goals (refine bmGa hx ?_)
  repeat (any_goals (first | assumption | wp_step))
theorem sigA : Manifest.signature? "list.append" = some ⟨.oneArg, "list.append", "append", .self, [⟨"object", .posOnly, true⟩]⟩ := by
  rw [signature?_of (id := "list.append") (n := ['d', 'n', 'e', 'p', 'p', 'a']) (o := ['t', 's', 'i', 'l']) (by kernel_rfl) F.owner_list]; kernel_rfl
theorem kindA : builtinKind "list.append" = some .method := by decide +kernel
theorem lmod : isSubtype (.type "list") (.type "module") = pure false := by rw [isSubtype_type]; kernel_rfl
theorem ltyp : isSubtype (.type "list") (.type "type") = pure false := by rw [isSubtype_type]; kernel_rfl
theorem checkAppend {x : Value} {arr : Array Value} {ep : Nat} {Q : Unit → Shared → Prop} (hx : h.get? a = some (lstO arr ep)) (hq : Q () ⟨h, g, d, t, os⟩) : wpAny (model prog w) A (checkBoundCall "list.append" ⟨[.ref a, x], []⟩) Q E ⟨h, g, d, t, os⟩ := by
  have hT : (⟨h, g, d, t, os⟩ : Shared).TypeIs (.ref a) "list" := ⟨_, hx, rfl⟩
  have f1 := lmod
  have f2 := ltyp
  have f3 : Manifest.varargsMethods.contains "list.append" = false := by decide +kernel
  unfold checkBoundCall
  rw [sigA, kindA]
  dsimp only
  rw [if_neg (by decide)]
  refine wpAny_bind (wpAny_isInstance hT lmod ?_)
  rw [f3]
  simp only [Bool.or_false, Bool.false_eq_true, if_false]
  unfold isType
  repeat (any_goals (first | assumption | wp_step))
/-- what a bound append does -/
theorem bmCall {x : Value} {arr : Array Value} {ep : Nat} {b : Addr} {R : Result → Shared → Prop} (hx : h.get? b = some { cls := .type "builtin_function_or_method", data := .fields #[.builtin "list.append", .ref a] })
    (ha : h.get? a = some (lstO arr ep)) (hsz : arr.size ≤ sizeLine) (hq : ∀ h', h'.PlainList a (arr.push x) → Heap.SameBut a h h' → R (.ok (.ret .none)) ⟨h', g, d, t, os⟩) : codeAny (model prog w) A (.call (.ref b) ⟨[x], []⟩) R ⟨h, g, d, t, os⟩ := by
  refine codeAny_of_tree ?_
  show wpAny _ A.in1 (callAny (.ref b) ⟨[x], []⟩) _ _ _
  simp only [callAny]
  refine wpAny_bind (wpAny_load hx ?_)
  show wpAny _ _ (checkBoundCall "list.append" ⟨[.ref a, x], []⟩ >>= fun _ => again (.builtin "list.append" ⟨[.ref a, x], []⟩)) _ _ _
  refine wpAny_bind (checkAppend ha (wpAny_pure ⟨Code.quiet_builtin _ (by decide +kernel), codeAny_builtin F.entry_list_append ?_⟩))
  show wpAny _ _ (updateSeq a (·.push x) >>= fun _ => ret .none) _ _ _
  refine wpAny_bind (wpAny_updateSeq ha rfl (wpAny_pure (hq _ ⟨ep + 1, ?_⟩ (Heap.SameBut.update ..))))
  rw [Heap.get?_update_self _ ha (by rw [Obj.mapSeq_push_plain]; rfl), Obj.mapSeq_push_plain]
end
end Mine
end
section
open PySem PySem.W PySem.Calls PyProof.Rows
set_option linter.all false
set_option maxRecDepth 100000
namespace Mine
section
variable {X : SX} {env : Env} {d : Nat} {st st' : St} {fz kp : FH} {kg : Nat → Option GenState} {ρ : List Addr} {led : List MObj} {s : Shared}
theorem GtE.append {i : Nat} {vs : List MVal} (hi : st.led[i]? = some (.lst vs)) : GtE X env d (.ref i) "append" st (.bm "list.append" (.ref i)) st :=
  fun A fz kp kg ρ s va expr ok R h Q E q => by
    have h' := h
    obtain ⟨a, arr, ep, h1, rfl, hl, hv, hz⟩ := ref_is R.toLRel hi h
    obtain ⟨hh, g, dr, t, os⟩ := s
    refine bmGet hl ?_
    have hn : hh.get? hh.objs.size = none := none_of_size
    have R' := R.new (h' := hh.push { cls := .type "builtin_function_or_method", data := .fields #[.builtin "list.append", .ref a] }) (tk := t + 1) hn (fun _ _ e => Heap.get?_push_of_some _ e) (Heap.get?_push_size _ rfl)
    have g' : Grow fz ρ _ ρ := grow_upd (o := { cls := .type "builtin_function_or_method", data := .fields #[.builtin "list.append", .ref a] }) (R.fz_none hn)
    refine q _ _ _ _ R' g' ?_
    simp only [VRel]
    refine ⟨_, _, rfl, upd_self .., ?_⟩
    have := VRel.grow g' _ _ h'
    simpa [VRel] using this
theorem AppE.bmAppend {i : Nat} {vs : List MVal} {v : MVal} (hi : st.led[i]? = some (.lst vs)) (hz : vs.length ≤ 10000000) : AppE X env d (.bm "list.append" (.ref i)) [v] [] st .none { st with led := st.led.set i (.lst (vs ++ [v])) } :=
  fun A fz kp kg ρ s fv us kvs ok R hf hv hk Q E q => by
    have ek := kvs_nil hk; subst ek
    simp only [VRel] at hf
    obtain ⟨b, x, rfl, h1, a, h2, rfl⟩ := hf
    simp only [VRels] at hv
    obtain ⟨y, r, rfl, h3, rfl⟩ := hv
    obtain ⟨o, h4, arr, ep, rfl, h5⟩ := R.ild i a _ h2 hi
    have hsz : arr.size = vs.length := by simpa using VRels.length h5
    obtain ⟨hh, g, dr, t, os⟩ := s
    refine wpAny_call (bmCall (R.ifz _ _ h1) h4 (by rw [sizeLine_eq]; omega) fun h' ⟨n, hp⟩ hs => ?_)
    refine q _ _ _ _ (R.updL (tk := t) h2 hs hp ⟨_, _, rfl, ?_⟩) (.refl _ _) (by simp [VRel])
    rw [Array.toList_push]
    exact VRels.append h5 (by simp only [VRels]; exact ⟨_, _, rfl, h3, rfl⟩)
theorem KpE.bm {id : String} {self : MVal} : KpE X (.bm id self) := fun fz kp kg ρ led s fv R h => by
  simp only [VRel] at h
  obtain ⟨b, x, rfl, h1, _⟩ := h
  exact ⟨.machine, .inr (.inl rfl), (Looks.ld (part := none) (R.ifz _ _ h1)).andThen .now⟩
theorem KpE.clo {F : CloF} {cs : List (Str × Nat)} : KpE X (.clo F cs) := fun fz kp kg ρ led s fv R h => by
  simp only [VRel] at h
  obtain ⟨a, clos, doc, pm, c', ctv, oc, vs, t, rfl, h1, _⟩ := h
  exact ⟨.frame, .inl rfl, (Looks.ld (part := none) (R.ifz _ _ h1)).andThen .now⟩
end
end Mine
end
section
open PySem PySem.W PySem.Calls PyProof.Rows
set_option linter.all false
set_option maxRecDepth 100000
namespace Mine

section
variable {X : SX} {env cenv : Env} {d : Nat} {st st' st₁ st₂ st₃ : St} {fz kp : FH} {kg : Nat → Option GenState} {ρ : List Addr} {led led' : List MObj} {s : Shared} {A : Around}

/-- back to the outer frame, with other things kept than before -/
theorem Rel.back2 (R : Rel X env fz kp kg ρ st s) {oL : Obj} (eL : s.heap.get? env.locals = some oL) {fz' kp' : FH} {kg' : Nat → Option GenState} {ρ' : List Addr} {led' : List MObj} {s' : Shared} (h0 : kp' env.locals = none)
    (R' : LRel X fz' (fun b => if b = env.locals then some oL else kp' b) kg' ρ' led' s') (g : Grow fz ρ fz' ρ') : Rel X env fz' kp' kg' ρ' { st with led := led' } s' := by
  have hL : s'.heap.get? env.locals = some oL := R'.ikp _ _ (by simp)
  have hfz : fz' env.locals = none := R'.dis _ oL (by simp)
  obtain ⟨m, ⟨o, es, ep, e1, e2⟩, hm⟩ := R.iloc
  rw [eL] at e1; cases e1
  refine { R' with ikp := fun a o h => ?_, off := fun a ha => ?_, offT := fun q hq => ?_, dis := fun a o h => ?_, iloc := ⟨m, ⟨oL, es, ep, hL, e2⟩, fun x v e => ?_⟩, icell := fun x i e => ?_, offL := ?_ }
  · by_cases q : a = env.locals
    · subst q; rw [h0] at h; cases h
    · exact R'.ikp a o (by rw [if_neg q]; exact h)
  · obtain ⟨h1, h2, h3⟩ := R'.off a ha
    refine ⟨h1, ?_, h3⟩
    split at h2
    · cases h2
    · exact h2
  · obtain ⟨h1, h2⟩ := R'.offT q hq
    refine ⟨h1, ?_⟩
    split at h2
    · cases h2
    · exact h2
  · by_cases q : a = env.locals
    · subst q; rw [h0] at h; cases h
    · exact R'.dis a o (by rw [if_neg q]; exact h)
  · obtain ⟨u, h1, h2⟩ := hm x v e
    exact ⟨u, h1, VRel.grow g _ _ h2⟩
  · obtain ⟨a, h1, h2⟩ := R.icell x i e
    exact ⟨a, g.at h1, h2⟩
  · refine ⟨hfz, h0, fun q => ?_, R.offL.2.2.2⟩
    have h := (R'.off _ q).2.1
    simp at h

/-- «x = [..]» on one line, x a local name: stored before the comprehension's own names go -/
theorem ExS.assignComp {elt target iter : Expr} {ifs : List Expr} {scope : Scope} {pos spos py : Pos} {y : Str} {v : MVal} {xs ys : List MVal} {cs : List (Str × Nat)} (O : EnvOk env) (h1 : EvE X env d iter st v st₁) (h2 : IterE X env d v xs st₁)
    (hcs : csOf st.cells scope.names [] = some cs) (h3 : ∀ C cl, ∃ st₂, CompE X (compEnvC scope cl C env) d target ifs elt xs ⟨[], cs, st₁.led⟩ ys st₂ ∧ st₂.led = led') (hb : BindE X env d y (.lst ys) { st₁ with led := led' } st')
    (hsw : swapsWith (.ListComp elt [⟨target, iter, ifs, 0⟩] scope pos) (some (.Name y py)) spos.line env = pure true := by rfl) (hz : xs.length ≤ 10000000 := by simp)
    (hkind : scope.kind = .function := by rfl) (hcell : (scope.names.all fun x => x.2 != .cell) = true := by rfl) (hnm : (scope.names.all fun x => x.2 != .local || decide (scope.names.lookup x.1 = some .local)) = true := by rfl)
    (hs : ∀ x, foldedSetIterable iter env x = pure x := by intro _; rfl) :
    ExS X env d (.Assign [.Name y py] (.ListComp elt [⟨target, iter, ifs, 0⟩] scope pos) spos) st .next st' :=
  fun A fz kp kg ρ s ok R Q E q => by
    have hcell' : ∀ x ∈ scope.names, x.2 ≠ .cell := fun x hx e => by
      have := List.all_eq_true.mp hcell x hx
      rw [e] at this
      exact absurd this (by decide)
    have hnames : ∀ x ∈ scope.names, x.2 = .local → scope.names.lookup x.1 = some .local := fun x hx e => by
      have := List.all_eq_true.mp hnm x hx
      rw [e] at this
      simpa using this
    rw [exec_Assign_Name_used _ _ _ _ hsw]
    refine wpAny_bind (wpAny_standAt (wpAny_bind ?_))
    show wpAny _ A (do let _ ← comprehension (.ListComp elt [⟨target, iter, ifs, 0⟩] scope pos) scope env (firstIterPos [⟨target, iter, ifs, 0⟩] pos) (newList []) false (eval iter env) (some (PySem.assign (.Name y py) env))) _ _ s
    obtain ⟨cl, e1, hcr⟩ := R.clos scope.names [] [] cs rfl hcs
    refine wpAny_bind (wpAny_mono (wpAny_comprehension_free (use := some (PySem.assign (.Name y py) env)) (Q := fun _ s' => Q .next s') rfl hs (closureFor_is e1) hkind hnames (h1 A fz kp kg ρ s ok R _ _ fun fz₁ ρ₁ va s₁ R₁ g₁ r₁ => h2 A fz₁ kp kg ρ₁ s₁ va _ _ ok R₁ r₁ fun I o h' tk hn hk hI hit => ?_)) (fun _ s' hq => wpAny_pure (wpAny_pure hq)) fun _ _ e => e)
    -- the new list
    refine wpAny_newObj_type (wpAny_newFunctionEnv hcell' (by intro y hy; simp at hy) (fun h₄ hns₄ hsb₄ => ?_) hkind)
    dsimp only at hns₄ hsb₄ ⊢
    have R₂ := R₁.keep (tk := tk) hk
    generalize hH3 : h'.push { cls := .type "list", dict := none, data := .seq ([] : List Value).toArray } = H3 at hns₄ hsb₄ ⊢
    have k3 : ∀ b ob, h'.get? b = some ob → H3.get? b = some ob := fun b ob e => hH3 ▸ Heap.get?_push_of_some _ e
    have hD3 : H3.get? h'.objs.size = some (lstO #[] 0) := hH3 ▸ Heap.get?_push_size _ rfl
    have hsz3 : H3.objs.size = h'.objs.size + 1 := by rw [← hH3, Heap.size_push]
    have k4 : ∀ b ob, H3.get? b = some ob → h₄.get? b = some ob := fun b ob e => hsb₄.extBut b ob (Nat.ne_of_lt (Heap.lt_size e)) (Heap.get?_push_of_some _ e)
    have R₄ := R₂.keep (h' := h₄) (tk := tk + ([] : List (Str × Value)).length) fun b ob e => k4 _ _ (k3 _ _ e)
    obtain ⟨oL, eL, LH⟩ := R₄.hide
    have hC : ∀ {a : Addr} {ob : Obj}, h'.get? a = some ob → a ≠ H3.objs.size := fun e q => by
      have := Heap.lt_size e
      rw [q, hsz3] at this
      exact absurd this (by simp)
    have nC : ({ s₁ with heap := h', toks := tk } : Shared).heap.get? H3.objs.size = none := Heap.get?_none_of_le (by show h'.objs.size ≤ _; omega)
    have nD : ({ s₁ with heap := h', toks := tk } : Shared).heap.get? h'.objs.size = none := none_of_size
    have kpE_none : ∀ a, ({ s₁ with heap := h', toks := tk } : Shared).heap.get? a = none → (fun b => if b = env.locals then some oL else kp b) a = none := fun a ha => by
      dsimp only
      rw [if_neg (fun q => by obtain ⟨ob, e⟩ := R₂.ns_some; rw [← q, ha] at e; cases e)]
      exact R₂.kp_none ha
    have tabs_ne : ∀ a, ({ s₁ with heap := h', toks := tk } : Shared).heap.get? a = none → ∀ q ∈ X.tabs, q.2 ≠ a := fun a ha q hq e => by
      obtain ⟨ps, e', _⟩ := R₂.tb q hq
      rw [e, ha] at e'; cases e'
    have RC : Rel X (compEnvC scope cl H3.objs.size env) fz₁ (fun b => if b = env.locals then some oL else kp b) kg ρ₁ ⟨[], cs, st₁.led⟩ { s₁ with heap := h₄, toks := tk + ([] : List (Str × Value)).length } :=
      { LH with
        iloc := ⟨_, hns₄, fun x v e => by cases e⟩
        icell := fun x i e => CRel.look (CRel.grow g₁ _ _ hcr) e
        offL := ⟨R₂.fz_none nC, kpE_none _ nC, R₂.notin nC, tabs_ne _ nC⟩ }
    have nI : s₁.heap.get? I = none := hn
    have aI : Apart X (compEnvC scope cl H3.objs.size env) fz₁ (fun b => if b = env.locals then some oL else kp b) ρ₁ I :=
      { fz := R₁.fz_none nI
        kp := by
          show (if I = env.locals then some oL else kp I) = none
          rw [if_neg (fun q => by obtain ⟨ob, e⟩ := R₁.ns_some; rw [← q, nI] at e; cases e)]
          exact R₁.kp_none nI
        ρ := R₁.notin nI
        tab := fun q hq e => by
          obtain ⟨ps, e', _⟩ := R₁.tb q hq
          rw [e, nI] at e'; cases e'
        L := hC hI }
    have aD : Apart X (compEnvC scope cl H3.objs.size env) fz₁ (fun b => if b = env.locals then some oL else kp b) ρ₁ h'.objs.size :=
      { fz := R₂.fz_none nD
        kp := kpE_none _ nD
        ρ := R₂.notin nD
        tab := tabs_ne _ nD
        L := by show h'.objs.size ≠ H3.objs.size; omega }
    have hDI : h'.objs.size ≠ I := fun q => by
      have := Heap.lt_size hI
      rw [← q] at this
      exact Nat.lt_irrefl _ this
    have loop : codeAny (model X.prog X.w) A (.compLoop (.ListComp elt [⟨target, iter, ifs, 0⟩] scope pos) 0 (.ref I) (.ref h'.objs.size) (compEnvC scope cl H3.objs.size env))
        (compPost (model X.prog X.w) A E (some (PySem.assign (.Name y py) env)) (fun _ s' => Q .next s') (.ref h'.objs.size) H3.objs.size) { s₁ with heap := h₄, toks := tk + ([] : List (Str × Value)).length } := by
      obtain ⟨st₂, h3', e3⟩ := h3 H3.objs.size cl
      refine h3'.code _ ok RC aI (k4 _ _ (k3 _ _ hI)) hit aD hDI (k4 _ _ hD3) (done := []) (by simp [VRels]) (by simpa using hz) fun fz' ρ' s' arr' ep' R' g' aD' hD' hv' => ?_
      have R'' := R'.freeze aD' hD'
      have g'' : Grow fz' ρ' _ ρ' := grow_upd (o := lstO arr' ep') aD'.fz
      obtain ⟨oC, eC, L₅⟩ := R''.hide
      have hCL : H3.objs.size ≠ env.locals := fun e => by
        obtain ⟨ob, e'⟩ := R₂.ns_some
        exact hC e' e.symm
      have ekp : (fun b => if b = (compEnvC scope cl H3.objs.size env).locals then some oC else (fun b => if b = env.locals then some oL else kp b) b) = (fun b => if b = env.locals then some oL else keepAt kp H3.objs.size oC b) := by
        funext b
        show (if b = H3.objs.size then some oC else if b = env.locals then some oL else kp b) = (if b = env.locals then some oL else if b = H3.objs.size then some oC else kp b)
        by_cases e1 : b = H3.objs.size
        · subst e1; rw [if_pos rfl, if_neg hCL, if_pos rfl]
        · rw [if_neg e1, if_neg e1]
      rw [ekp, e3] at L₅
      have kpC : kp H3.objs.size = none := R₂.kp_none nC
      have R₆ := R₄.back2 eL (kp' := keepAt kp H3.objs.size oC) (by
        unfold keepAt; rw [if_neg (Ne.symm hCL)]; exact R₄.offL.2.1) L₅ (g'.trans g'')
      have hval : VRel (upd fz' h'.objs.size (lstO arr' ep')) ρ' (.lst ys) (.ref h'.objs.size) := by
        simp only [VRel]
        exact ⟨_, arr', ep', rfl, upd_self .., VRels.grow g'' _ _ (by simpa using hv')⟩
      show wpAny _ A (PySem.assign (.Name y py) env (.ref h'.objs.size)) _ _ _
      refine wpAny_assign_Name (hb A _ _ kg ρ' s' _ ok R₆ hval _ _ fun fz₇ ρ₇ _ s₇ R₇ g₇ _ => ?_)
      obtain ⟨R₈, aC, hC₈⟩ := R₇.unput kpC
      obtain ⟨mC, hnC, _⟩ := R'.iloc
      obtain ⟨o₁, es₁, ep₁, k1, k2⟩ := hnC
      have eo : o₁ = oC := by
        have : s'.heap.get? H3.objs.size = some o₁ := k1
        rw [show s'.heap.get? H3.objs.size = some oC from eC] at this
        cases this; rfl
      subst eo
      refine ⟨mC, ⟨o₁, es₁, ep₁, hC₈, k2⟩, fun h₉ hs₉ => ?_⟩
      exact q _ _ _ _ (R₈.same (tk := s₇.toks) aC hs₉) (((g₁.trans g').trans g'').trans g₇) rfl
    exact codeAny_compStart_list loop (IterRel.self RC.toLRel (k4 _ _ (k3 _ _ hI)) hit loop)
end
end Mine
end
section
open PySem PySem.W PySem.Calls PyProof.Rows PySem.MeetsSeq
set_option linter.all false
set_option maxRecDepth 100000
namespace Mine
section
variable {X : SX} {env : Env} {d : Nat} {st st' : St} {fz kp : FH} {kg : Nat → Option GenState} {ρ : List Addr} {led : List MObj} {s : Shared}

theorem ints_rel {fz : FH} {ρ : List Addr} : ∀ {ns : List Int} {us : List Value}, VRels fz ρ (ns.map MVal.int) us → ∀ k, (∀ y ∈ us, ∃ n t, y = .int n t) ∧ us.any (fun | .int n _ => n == k | _ => false) = ns.any (· == k)
  | [], us, h, k => by simp only [List.map_nil, VRels] at h; subst h; exact ⟨fun y hy => (nomatch hy), rfl⟩
  | n :: ns, us, h, k => by
    simp only [List.map_cons, VRels, VRel] at h
    obtain ⟨v, r, rfl, ⟨t, rfl⟩, h2⟩ := h
    obtain ⟨h3, h4⟩ := ints_rel h2 k
    refine ⟨fun y hy => ?_, ?_⟩
    · rcases List.mem_cons.mp hy with rfl | hy
      · exact ⟨n, t, rfl⟩
      · exact h3 y hy
    · rw [List.any_cons, List.any_cons, h4]
theorem bools_rel {fz : FH} {ρ : List Addr} : ∀ {ns : List Bool} {us : List Value}, VRels fz ρ (ns.map MVal.bool) us → ∀ k, (∀ y ∈ us, ∃ n, y = .bool n) ∧ us.any (fun | .bool n => n == k | _ => false) = ns.any (· == k)
  | [], us, h, k => by simp only [List.map_nil, VRels] at h; subst h; exact ⟨fun y hy => (nomatch hy), rfl⟩
  | n :: ns, us, h, k => by
    simp only [List.map_cons, VRels, VRel] at h
    obtain ⟨v, r, rfl, rfl, h2⟩ := h
    obtain ⟨h3, h4⟩ := bools_rel h2 k
    refine ⟨fun y hy => ?_, ?_⟩
    · rcases List.mem_cons.mp hy with rfl | hy
      · exact ⟨n, rfl⟩
      · exact h3 y hy
    · rw [List.any_cons, List.any_cons, h4]
theorem eqBools (a b : Bool) : EqGives (.bool a) (.bool b) (a == b) := fun prog w A E s Q h => PySem.SeqAt.EqAt.bool_bool (A := A) (s := s) a b prog w E Q h

theorem CmpE.inInts {ns : List Int} {k : Int} : CmpE X env d .In (.int k) (.lst (ns.map MVal.int)) st (ns.any (· == k)) st := fun A fz kp kg ρ s va vb ok R ha hb Q E q => by
  simp only [VRel] at ha; obtain ⟨t, rfl⟩ := ha
  obtain ⟨a, arr, rfl, ⟨ep, hl⟩, hv, hz⟩ := lst_is R.toLRel hb
  obtain ⟨h1, h2⟩ := ints_rel hv k
  refine PySem.SeqRoads2.in_list (fun | .int n _ => n == k | _ => false) (fun y hy => ?_) hl (q _ _ _ _ R (.refl _ _) ?_)
  · obtain ⟨n, u, rfl⟩ := h1 y (by simpa using hy)
    exact EqGives.int _ _ _ _
  · rw [← Array.any_toList, h2]
theorem CmpE.notInInts {ns : List Int} {k : Int} : CmpE X env d .NotIn (.int k) (.lst (ns.map MVal.int)) st (!(ns.any (· == k))) st := fun A fz kp kg ρ s va vb ok R ha hb Q E q => by
  simp only [VRel] at ha; obtain ⟨t, rfl⟩ := ha
  obtain ⟨a, arr, rfl, ⟨ep, hl⟩, hv, hz⟩ := lst_is R.toLRel hb
  obtain ⟨h1, h2⟩ := ints_rel hv k
  refine PySem.SeqRoads2.notIn_list (fun | .int n _ => n == k | _ => false) (fun y hy => ?_) hl (q _ _ _ _ R (.refl _ _) ?_)
  · obtain ⟨n, u, rfl⟩ := h1 y (by simpa using hy)
    exact EqGives.int _ _ _ _
  · rw [← Array.any_toList, h2]
theorem CmpE.inBools {ns : List Bool} {k : Bool} : CmpE X env d .In (.bool k) (.lst (ns.map MVal.bool)) st (ns.any (· == k)) st := fun A fz kp kg ρ s va vb ok R ha hb Q E q => by
  simp only [VRel] at ha; subst ha
  obtain ⟨a, arr, rfl, ⟨ep, hl⟩, hv, hz⟩ := lst_is R.toLRel hb
  obtain ⟨h1, h2⟩ := bools_rel hv k
  refine PySem.SeqRoads2.in_list (fun | .bool n => n == k | _ => false) (fun y hy => ?_) hl (q _ _ _ _ R (.refl _ _) ?_)
  · obtain ⟨n, rfl⟩ := h1 y (by simpa using hy)
    exact eqBools _ _
  · rw [← Array.any_toList, h2]
end
end Mine
end
section
open PySem PySem.W PySem.Calls PyProof.Rows
set_option linter.all false
set_option maxRecDepth 100000
namespace Mine
section
variable {X : SX} {env : Env} {d : Nat} {st st' st₁ st₂ st₃ : St} {fz kp : FH} {kg : Nat → Option GenState} {ρ : List Addr} {led : List MObj} {s : Shared}

/-- what follows a statement -/
inductive ThenE (X : SX) (env : Env) (d : Nat) : MFlow → List Stmt → St → MFlow → St → Prop
  | next {r : List Stmt} {f : MFlow} {a b : St} : ExL X env d r a f b → ThenE X env d .next r a f b
  | brk {r : List Stmt} {a : St} : ThenE X env d .brk r a .brk a
  | cont {r : List Stmt} {a : St} : ThenE X env d .cont r a .cont a
  | ret {r : List Stmt} {v : MVal} {a : St} : ThenE X env d (.ret v) r a (.ret v) a
theorem ExL.step {t : Stmt} {r : List Stmt} {f₁ f : MFlow} (h1 : ExS X env d t st f₁ st₁) (h2 : ThenE X env d f₁ r st₁ f st') : ExL X env d (t :: r) st f st' := by
  cases h2 with
  | next h => exact .cons h1 h
  | brk => exact .stop h1 nofun
  | cont => exact .stop h1 nofun
  | ret => exact .stop h1 nofun

inductive IfE (X : SX) (env : Env) (d : Nat) : Bool → List Stmt → List Stmt → St → MFlow → St → Prop
  | t {c : Bool} {b o : List Stmt} {f : MFlow} {x y : St} : c = true → ExL X env d b x f y → IfE X env d c b o x f y
  | f {c : Bool} {b o : List Stmt} {f : MFlow} {x y : St} : c = false → ExL X env d o x f y → IfE X env d c b o x f y
theorem ExS.ifC {t : Expr} {b o : List Stmt} {pos : Pos} {c : Bool} {f : MFlow} (h1 : TsE X env d t st c st₁) (h2 : IfE X env d c b o st₁ f st') : ExS X env d (.If t b o pos) st f st' := by
  cases h2 with
  | t hc h => subst hc; exact .ife h1 h
  | f hc h => subst hc; exact .ife h1 h
inductive IfX (X : SX) (env : Env) (d : Nat) : Bool → Expr → Expr → St → MVal → St → Prop
  | t {c : Bool} {b o : Expr} {f : MVal} {x y : St} : c = true → EvE X env d b x f y → IfX X env d c b o x f y
  | f {c : Bool} {b o : Expr} {f : MVal} {x y : St} : c = false → EvE X env d o x f y → IfX X env d c b o x f y
theorem EvE.ifC {t b o : Expr} {pos : Pos} {c : Bool} {v : MVal} (h1 : TsE X env d t st c st₁) (h2 : IfX X env d c b o st₁ v st') : EvE X env d (.IfExp t b o pos) st v st' := by
  cases h2 with
  | t hc h => subst hc; exact .ife h1 h
  | f hc h => subst hc; exact .ife h1 h

def AllT (X : SX) (env : Env) (d : Nat) (op : BoolOp) (es : List Expr) (st : St) (b : Bool) (st' : St) : Prop :=
  ∀ A fz kp kg ρ s, AOk A d → Rel X env fz kp kg ρ st s → WP X env A fz kp kg ρ (allTrue op es env) st' (fun _ _ b' => b' = b) s
theorem TsE.bop {op : BoolOp} {es : List Expr} {pos : Pos} {b : Bool} (h : AllT X env d op es st b st') : TsE X env d (.BoolOp op es pos) st b st' :=
  fun A fz kp kg ρ s ok R Q E q => wpAny_isTrue_BoolOp (h A fz kp kg ρ s ok R Q E q)
theorem AllT.andNil : AllT X env d .And [] st true st := fun A fz kp kg ρ s ok R Q E q => wpAny_allTrue_And_nil (q _ _ _ _ R (.refl _ _) rfl)
theorem AllT.orNil : AllT X env d .Or [] st false st := fun A fz kp kg ρ s ok R Q E q => wpAny_allTrue_Or_nil (q _ _ _ _ R (.refl _ _) rfl)
inductive MoreT (X : SX) (env : Env) (d : Nat) : BoolOp → Bool → List Expr → St → Bool → St → Prop
  | andT {c b : Bool} {r : List Expr} {x y : St} : c = true → AllT X env d .And r x b y → MoreT X env d .And c r x b y
  | andF {c : Bool} {r : List Expr} {x : St} : c = false → MoreT X env d .And c r x false x
  | orF {c b : Bool} {r : List Expr} {x y : St} : c = false → AllT X env d .Or r x b y → MoreT X env d .Or c r x b y
  | orT {c : Bool} {r : List Expr} {x : St} : c = true → MoreT X env d .Or c r x true x
theorem AllT.cons {op : BoolOp} {e : Expr} {r : List Expr} {c b : Bool} (h1 : TsE X env d e st c st₁) (h2 : MoreT X env d op c r st₁ b st') : AllT X env d op (e :: r) st b st' :=
  fun A fz kp kg ρ s ok R Q E q => by
    unfold allTrue
    refine wpAny_bind (h1 A fz kp kg ρ s ok R _ _ fun fz₁ ρ₁ c' s₁ R₁ g₁ hc => ?_)
    subst hc
    cases h2 with
    | andT hc h => subst hc; exact h A fz₁ kp kg ρ₁ s₁ ok R₁ _ _ fun fz₂ ρ₂ b s₂ R₂ g₂ hb => q _ _ _ _ R₂ (g₁.trans g₂) hb
    | andF hc => subst hc; exact wpAny_pure (q _ _ _ _ R₁ g₁ rfl)
    | orF hc h => subst hc; exact h A fz₁ kp kg ρ₁ s₁ ok R₁ _ _ fun fz₂ ρ₂ b s₂ R₂ g₂ hb => q _ _ _ _ R₂ (g₁.trans g₂) hb
    | orT hc => subst hc; exact wpAny_pure (q _ _ _ _ R₁ g₁ rfl)

/-- a comprehension over a list of things -/
theorem CompE.mapA {α : Type} {target elt : Expr} {ifs : List Expr} (f : α → MVal) (Inv : St → Prop) (step : α → St → St) (p : α → Bool) (g : α → MVal) : ∀ (l : List α),
    (∀ x ∈ l, ∀ st, Inv st → StoreE X env d target (f x) st (step x st) ∧ Inv (step x st) ∧ TestsE X env d ifs (step x st) (p x) (step x st) ∧ (p x = true → EvE X env d elt (step x st) (g x) (step x st))) →
    ∀ st, Inv st → ∃ st', CompE X env d target ifs elt (l.map f) st ((l.filter p).map g) st' ∧ Inv st'
  | [], _, st, hi => ⟨st, .nil, hi⟩
  | x :: xs, h, st, hi => by
    obtain ⟨h1, h2, h3, h4⟩ := h x List.mem_cons_self st hi
    obtain ⟨st', h5, h6⟩ := CompE.mapA f Inv step p g xs (fun y hy => h y (List.mem_cons_of_mem _ hy)) (step x st) h2
    refine ⟨st', ?_, h6⟩
    rw [List.filter_cons]
    cases hp : p x with
    | true => rw [hp] at h3; rw [if_pos rfl, List.map_cons]; exact .elt h1 h3 (h4 hp) h5
    | false => rw [hp] at h3; rw [if_neg Bool.false_ne_true]; exact .skip h1 h3 h5
theorem intsL_map : ∀ (n : Nat) (x : Int), intsL x n = (List.range n).map fun (i : Nat) => MVal.int (x + (i : Int))
  | 0, x => rfl
  | n + 1, x => by
    rw [intsL, intsL_map n (x + 1), List.range_succ_eq_map, List.map_cons, List.map_map]
    congr 1
    · simp
    · apply List.map_congr_left
      intro i _
      show MVal.int (x + 1 + (i : Int)) = MVal.int (x + ((i + 1 : Nat) : Int))
      congr 1
      omega

/-- consequence -/
theorem TsE.cast {e : Expr} {b c : Bool} (h : TsE X env d e st b st') (hb : b = c) : TsE X env d e st c st' := hb ▸ h
theorem EvE.cast {e : Expr} {b c : MVal} (h : EvE X env d e st b st') (hb : b = c) : EvE X env d e st c st' := hb ▸ h
theorem ExL.cast {e : List Stmt} {f g : MFlow} (h : ExL X env d e st f st') (hb : f = g) (hs : st' = st₁) : ExL X env d e st g st₁ := hs ▸ hb ▸ h

-- one after the other, as the walk needs them
theorem EvE.nameOf {x : Str} {pos : Pos} {v : MVal} (hd : (x == ("__debug__" : Str)) = false) (h : LdE X env d x st v st') : EvE X env d (.Name x pos) st v st' := .name h hd
end

end Mine
end
section
open PySem PySem.W PySem.Calls PyProof.Rows
set_option linter.all false
set_option maxRecDepth 100000
namespace Mine

/-- a name is bound -/
def St.put (st : St) (x : Str) (v : MVal) : St := { st with loc := setA x v st.loc }
/-- the ledger is another -/
def St.wled (st : St) (l : List MObj) : St := { st with led := l }

/-- where the walk finds a name of the top: what it finds is shown by evaluation -/
inductive Fng {α : Type} (x : Str) (v : α) : List (Str × α) → Prop
  | here {l : List (Str × α)} : Fng x v ((x, v) :: l)
  | there {p : Str × α} {l : List (Str × α)} : Fng x v l → Fng x v (p :: l)
inductive Fnd {α : Type} (x : Str) (v : α) : List (Str × α) → Prop
  | here {l : List (Str × α)} : Fnd x v ((x, v) :: l)
  | there {y : Str} {u : α} {l : List (Str × α)} : (x == y) = false → Fnd x v l → Fnd x v ((y, u) :: l)
inductive FndL (x : Str) (v : MVal) : St → Prop
  | set {st : St} : FndL x v (st.put x v)
  | skip {st : St} {y : Str} {u : MVal} : (x == y) = false → FndL x v st → FndL x v (st.put y u)
  | led {st : St} {l : List MObj} : FndL x v st → FndL x v (st.wled l)
  | mk {loc : List (Str × MVal)} {cells : List (Str × Nat)} {led : List MObj} : Fnd x v loc → FndL x v ⟨loc, cells, led⟩
inductive FndC (x : Str) (i : Nat) : St → Prop
  | skip {st : St} {y : Str} {u : MVal} : FndC x i st → FndC x i (st.put y u)
  | led {st : St} {l : List MObj} : FndC x i st → FndC x i (st.wled l)
  | mk {loc : List (Str × MVal)} {cells : List (Str × Nat)} {led : List MObj} : Fnd x i cells → FndC x i ⟨loc, cells, led⟩
theorem Fnd.look {α : Type} {x : Str} {v : α} {l : List (Str × α)} (h : Fnd x v l) : l.lookup x = some v := by
  induction h with
  | here => simp [List.lookup_cons]
  | there hn _ ih => rw [lookup_cons_ne (by simpa using hn)]; exact ih
theorem FndL.look {x : Str} {v : MVal} {st : St} (h : FndL x v st) : st.loc.lookup x = some v := by
  induction h with
  | set => show (setA x v _).lookup x = _; rw [lookup_setA]; simp
  | skip hn _ ih => show (setA _ _ _).lookup x = _; rw [lookup_setA, if_neg (by simpa using hn)]; exact ih
  | led _ ih => exact ih
  | mk h => exact h.look
theorem FndC.look {x : Str} {i : Nat} {st : St} (h : FndC x i st) : st.cells.lookup x = some i := by
  induction h with
  | skip _ ih => exact ih
  | led _ ih => exact ih
  | mk h => exact h.look

section
variable {X : SX} {env : Env} {d : Nat} {st st' st₁ st₂ st₃ : St} {fz kp : FH} {kg : Nat → Option GenState} {ρ : List Addr} {led led' : List MObj} {s : Shared}

theorem LdE.locF (O : EnvOk env) {x : Str} {v : MVal} (hf : FndL x v st) (hl : env.kindOf x = some .local) : LdE X env d x st v st := .loc O hl hf.look
/-- a cell of the frame's own or of an outer one -/
theorem LdE.celF (O : EnvOk env) {x : Str} {v : MVal} {i : Nat} (hf : FndC x i st) (hl : (env.kindOf x == some .cell || env.kindOf x == some .free) = true) (hc : (x == ("__classdict__" : Str)) = false) (h2 : st.led[i]? = some (.cell (some v))) : LdE X env d x st v st := by
  rw [Bool.or_eq_true, beq_iff_eq, beq_iff_eq] at hl
  rcases hl with hl | hl
  · exact .cell O hl hf.look h2
  · exact .free O hl hf.look h2 hc
theorem LdE.gloF (O : EnvOk env) (XO : SXOk X) {gt : List (Str × Value)} {x : Str} {v : Value} (hf : Fng x v gt) (hl : env.kindOf x = some .globalImplicit) (hg : nsIn X.K mainGlobals x = some (some v)) : LdE X env d x st (.obj v) st :=
  .glob O XO hl (mg_is XO hg) (fun _ _ _ => by simp [VRel])
theorem LdE.bltF (O : EnvOk env) (XO : SXOk X) {gt : List (Str × Value)} {x : Str} {v : Value} (hf : Fng x v gt) (hl : env.kindOf x = some .globalImplicit) (hg : nsIn X.K mainGlobals x = some none) (hb : bootBuiltins x = some v) (hn : (x == ("__name__" : Str)) = false) : LdE X env d x st (.obj v) st :=
  .blt O XO hl (mg_no XO hg) hb (fun e => by rw [e] at hn; simp at hn)
theorem BindE.locF (O : EnvOk env) {x : Str} {v : MVal} (hl : env.kindOf x = some .local) : BindE X env d x v st (st.put x v) := .loc O hl
theorem BindE.celF (O : EnvOk env) {x : Str} {v : MVal} {i : Nat} {w : Option MVal} (hf : FndC x i st) (hl : env.kindOf x = some .cell) (h2 : st.led[i]? = some (.cell w)) :
    BindE X env d x v st (st.wled (st.led.set i (.cell (some v)))) := .cell O hl hf.look h2
theorem EvE.tupF {es : List Expr} {k : Nat} {pos : Pos} {vs : List MVal} (h : EvL X env d pos es st vs st') (hz : vs.length ≤ 10000000) : EvE X env d (.Tuple es k pos) st (.tup vs) st' := .tup h hz
theorem EvE.lstF {es : List Expr} {pos : Pos} {vs : List MVal} (h : EvL X env d pos es st vs st') (hz : vs.length ≤ 10000000) : EvE X env d (.List es pos) st (.lst vs) st' := .lst h hz
/-- a list that will be changed -/
theorem EvE.lstMF {es : List Expr} {pos : Pos} {vs : List MVal} (h : EvL X env d pos es st vs st₁) (hz : vs.length ≤ 10000000) : EvE X env d (.List es pos) st (.ref st₁.led.length) (st₁.wled (st₁.led ++ [.lst vs])) := .lstM h hz
theorem EvE.listcompF {elt target iter : Expr} {ifs : List Expr} {scope : Scope} {pos : Pos} {v : MVal} {xs ys : List MVal} {cs : List (Str × Nat)} (O : EnvOk env) (h1 : EvE X env d iter st v st₁) (h2 : IterE X env d v xs st₁)
    (hcs : csOf st.cells scope.names [] = some cs) (h3 : ∀ C cl, ∃ st₂, CompE X (compEnvC scope cl C env) d target ifs elt xs ⟨[], cs, st₁.led⟩ ys st₂ ∧ st₂.led = led') (hz : xs.length ≤ 10000000)
    (hkind : scope.kind = .function := by rfl) (hcell : (scope.names.all fun x => x.2 != .cell) = true := by kernel_rfl) (hnm : (scope.names.all fun x => x.2 != .local || decide (scope.names.lookup x.1 = some .local)) = true := by kernel_rfl)
    (hs : ∀ x, foldedSetIterable iter env x = pure x := by intro _; rfl) :
    EvE X env d (.ListComp elt [⟨target, iter, ifs, 0⟩] scope pos) st (.lst ys) (st₁.wled led') := .listcomp O h1 h2 hcs h3 hz hkind hcell hnm hs
theorem ExS.assignCompF {elt target iter : Expr} {ifs : List Expr} {scope : Scope} {pos spos py : Pos} {y : Str} {v : MVal} {xs ys : List MVal} {cs : List (Str × Nat)} (O : EnvOk env) (h1 : EvE X env d iter st v st₁) (h2 : IterE X env d v xs st₁)
    (hcs : csOf st.cells scope.names [] = some cs) (h3 : ∀ C cl, ∃ st₂, CompE X (compEnvC scope cl C env) d target ifs elt xs ⟨[], cs, st₁.led⟩ ys st₂ ∧ st₂.led = led') (hb : BindE X env d y (.lst ys) (st₁.wled led') st') (hz : xs.length ≤ 10000000)
    (hsw : swapsWith (.ListComp elt [⟨target, iter, ifs, 0⟩] scope pos) (some (.Name y py)) spos.line env = pure true := by kernel_rfl)
    (hkind : scope.kind = .function := by rfl) (hcell : (scope.names.all fun x => x.2 != .cell) = true := by kernel_rfl) (hnm : (scope.names.all fun x => x.2 != .local || decide (scope.names.lookup x.1 = some .local)) = true := by kernel_rfl)
    (hs : ∀ x, foldedSetIterable iter env x = pure x := by intro _; rfl) :
    ExS X env d (.Assign [.Name y py] (.ListComp elt [⟨target, iter, ifs, 0⟩] scope pos) spos) st .next st' := .assignComp O h1 h2 hcs h3 hb hsw hz hkind hcell hnm hs
theorem AppE.ofF {f : MVal} {args : List MVal} {kw : List (Str × MVal)} {r : MVal} (h : CallsTo X d f args kw st.led r led') : AppE X env d f args kw st r (st.wled led') := .of h
theorem AppE.appendF {i : Nat} {vs : List MVal} {v : MVal} (hi : st.led[i]? = some (.lst vs)) (hz : vs.length ≤ 10000000) : AppE X env d (.obj (.builtin "list.append")) [.ref i, v] [] st .none (st.wled (st.led.set i (.lst (vs ++ [v])))) := .append hi hz
theorem AppE.bmAppendF {i : Nat} {vs : List MVal} {v : MVal} (hi : st.led[i]? = some (.lst vs)) (hz : vs.length ≤ 10000000) : AppE X env d (.bm "list.append" (.ref i)) [v] [] st .none (st.wled (st.led.set i (.lst (vs ++ [v])))) := .bmAppend hi hz
theorem ExS.assignF {t value : Expr} {pos : Pos} {v : MVal} (h1 : EvE X env d value st v st₁) (h2 : StoreE X env d t v st₁ st') (he : (assignEach [t] env).map (·.2) = [PySem.assign t env] := by rfl)
    (hs : swapsWithSole [t] value pos.line env = pure false := by kernel_rfl) (hw : swappedStores [t] value env = pure none := by kernel_rfl) : ExS X env d (.Assign [t] value pos) st .next st' := .assign h1 h2 he hs hw

theorem exAnd {α : Sort _} {P Q R : α → Prop} (h : ∃ x, P x ∧ Q x) (f : ∀ x, Q x → R x) : ∃ x, P x ∧ R x := let ⟨x, p, q⟩ := h; ⟨x, p, f x q⟩
-- the ledger
theorem at_set {i : Nat} {m : MObj} {l : List MObj} (h : i < l.length) : (l.set i m)[i]? = some m := List.getElem?_set_self h
theorem at_ne {i j : Nat} {m m' : MObj} {l : List MObj} (h : j ≠ i) (h2 : l[i]? = some m) : (l.set j m')[i]? = some m := by rw [List.getElem?_set_ne h]; exact h2
theorem at_last {m : MObj} {l : List MObj} : (l ++ [m])[l.length]? = some m := by simp
theorem at_app {i : Nat} {m : MObj} {l r : List MObj} (h : l[i]? = some m) : (l ++ r)[i]? = some m := by
  rw [List.getElem?_append_left (List.getElem?_eq_some_iff.mp h).1]; exact h
end
end Mine
end
section
open PySem PySem.W PySem.Calls PyProof.Rows
set_option linter.all false
set_option maxRecDepth 100000
namespace Mine

mutual
/-- made of nothing but data that a value tells -/
def MVal.isData : MVal → Bool
  | .none => true
  | .bool _ => true
  | .int _ => true
  | .str _ => true
  | .tup vs => allData vs
  | .lst vs => allData vs
  | _ => false
def allData : List MVal → Bool
  | [] => true
  | x :: xs => x.isData && allData xs
end
mutual
/-- a value tells its data -/
theorem VRel.det {fz : FH} {ρ : List Addr} : ∀ (m m' : MVal) (v : Value), m.isData = true → m'.isData = true → VRel fz ρ m v → VRel fz ρ m' v → m = m'
  | .none, m', v, _, h', h1, h2 => by
    simp only [VRel] at h1; subst h1
    cases m' <;> simp only [VRel, MVal.isData] at h2 h' <;> first | rfl | (exact absurd h' (by decide)) | (simp at h2)
  | .bool b, m', v, _, h', h1, h2 => by
    simp only [VRel] at h1; subst h1
    cases m' <;> simp only [VRel, MVal.isData] at h2 h' <;> first | (exact absurd h' (by decide)) | (simp at h2; try (rw [h2]))
  | .int i, m', v, _, h', h1, h2 => by
    simp only [VRel] at h1; obtain ⟨t, rfl⟩ := h1
    cases m' <;> simp only [VRel, MVal.isData] at h2 h' <;> first | (exact absurd h' (by decide)) | (simp at h2; try (rw [h2]))
  | .str i, m', v, _, h', h1, h2 => by
    simp only [VRel] at h1; obtain ⟨t, rfl⟩ := h1
    cases m' <;> simp only [VRel, MVal.isData] at h2 h' <;> first | (exact absurd h' (by decide)) | (simp at h2; try (rw [h2]))
  | .tup vs, m', v, h, h', h1, h2 => by
    simp only [VRel] at h1; obtain ⟨a, arr, rfl, e1, r1⟩ := h1
    cases m' <;> simp only [VRel, MVal.isData] at h2 h' <;> first | (exact absurd h' (by decide)) | skip
    case none => simp at h2
    case bool => simp at h2
    case int => simp at h2
    case str => simp at h2
    case tup ws =>
      obtain ⟨a', arr', e, e2, r2⟩ := h2
      cases e
      rw [e1] at e2
      cases e2
      rw [VRels.det vs ws _ h h' r1 r2]
    case lst ws =>
      obtain ⟨a', arr', ep', e, e2, r2⟩ := h2
      cases e
      rw [e1] at e2
      have := congrArg (fun o => o.map Obj.cls) e2
      simp at this
  | .lst vs, m', v, h, h', h1, h2 => by
    simp only [VRel] at h1; obtain ⟨a, arr, ep, rfl, e1, r1⟩ := h1
    cases m' <;> simp only [VRel, MVal.isData] at h2 h' <;> first | (exact absurd h' (by decide)) | skip
    case none => simp at h2
    case bool => simp at h2
    case int => simp at h2
    case str => simp at h2
    case tup ws =>
      obtain ⟨a', arr', e, e2, r2⟩ := h2
      cases e
      rw [e1] at e2
      have := congrArg (fun o => o.map Obj.cls) e2
      simp at this
    case lst ws =>
      obtain ⟨a', arr', ep', e, e2, r2⟩ := h2
      cases e
      rw [e1] at e2
      cases e2
      rw [VRels.det vs ws _ h h' r1 r2]
  | .dct _ _, m', v, h, h', h1, h2 => by simp [MVal.isData] at h
  | .ref _, m', v, h, h', h1, h2 => by simp [MVal.isData] at h
  | .obj _, m', v, h, h', h1, h2 => by simp [MVal.isData] at h
  | .bm _ _, m', v, h, h', h1, h2 => by simp [MVal.isData] at h
  | .inst _ _ _, m', v, h, h', h1, h2 => by simp [MVal.isData] at h
  | .rng _ _, m', v, h, h', h1, h2 => by simp [MVal.isData] at h
  | .insr _ _, m', v, h, h', h1, h2 => by simp [MVal.isData] at h
  | .clo _ _, m', v, h, h', h1, h2 => by simp [MVal.isData] at h
  | .gen _, m', v, h, h', h1, h2 => by simp [MVal.isData] at h
  | .fo _ _, m', v, h, h', h1, h2 => by simp [MVal.isData] at h
theorem VRels.det {fz : FH} {ρ : List Addr} : ∀ (ms ms' : List MVal) (vs : List Value), allData ms = true → allData ms' = true → VRels fz ρ ms vs → VRels fz ρ ms' vs → ms = ms'
  | [], ms', vs, _, _, h1, h2 => by
    simp only [VRels] at h1; subst h1
    cases ms' with
    | nil => rfl
    | cons y ys => simp only [VRels] at h2; obtain ⟨v, r, e, _⟩ := h2; cases e
  | x :: xs, ms', vs, h, h', h1, h2 => by
    simp only [VRels] at h1
    obtain ⟨v, r, rfl, r1, r2⟩ := h1
    cases ms' with
    | nil => simp only [VRels] at h2; cases h2
    | cons y ys =>
      simp only [VRels] at h2
      obtain ⟨v', r', e, r3, r4⟩ := h2
      cases e
      simp only [allData, Bool.and_eq_true] at h h'
      rw [VRel.det x y _ h.1 h'.1 r1 r3, VRels.det xs ys _ h.2 h'.2 r2 r4]
end

section
variable {X : SX} {env : Env} {d : Nat} {st st' st₁ st₂ : St} {fz kp : FH} {kg : Nat → Option GenState} {ρ : List Addr} {led : List MObj} {s : Shared}

/-- two lists of other data are not one object -/
theorem CmpE.isDiff {vs ws : List MVal} (h1 : allData vs = true) (h2 : allData ws = true) (hne : vs ≠ ws) : CmpE X env d .Is (.lst vs) (.lst ws) st false st := fun A fz kp kg ρ s va vb ok R ha hb Q E q => by
  have hne' : va ≠ vb := fun e => by
    subst e
    have := VRel.det (.lst vs) (.lst ws) va h1 h2 ha hb
    cases this
    exact hne rfl
  simp only [VRel] at ha hb
  obtain ⟨a, _, _, rfl, k1, _⟩ := ha
  obtain ⟨b, _, _, rfl, k2, _⟩ := hb
  exact wpAny_is_ref_other (fun e => hne' (by rw [e])) (R.ifz _ _ k1) (R.ifz _ _ k2) (by simp) (q _ _ _ _ R (.refl _ _) rfl)

-- a list of the ledger is gone through
inductive ForR (X : SX) (env : Env) (d : Nat) (target : Expr) (body : List Stmt) (i : Nat) (vs : List MVal) : List MVal → St → MFlow → St → Prop
  | nil {a : St} : a.led[i]? = some (.lst vs) → ForR X env d target body i vs [] a .next a
  | next {x : MVal} {r : List MVal} {a b c e : St} {f g : MFlow} : a.led[i]? = some (.lst vs) → StoreE X env d target x a b → ExL X env d body b f c → f = .next ∨ f = .cont → ForR X env d target body i vs r c g e → ForR X env d target body i vs (x :: r) a g e
  | ret {x v : MVal} {r : List MVal} {a b c : St} : a.led[i]? = some (.lst vs) → StoreE X env d target x a b → ExL X env d body b (.ret v) c → ForR X env d target body i vs (x :: r) a (.ret v) c
  | weak {r : List MVal} {a a' e : St} {g : MFlow} : Sub a' a → ForR X env d target body i vs r a' g e → ForR X env d target body i vs r a g e

theorem ForR.code {target : Expr} {body : List Stmt} {i : Nat} {vs xs : List MVal} {f : MFlow} (hpl : plainTarget target = true) (h : ForR X env d target body i vs xs st f st') : ∀ {A fz kp kg ρ s I o l} (k : Nat) (R : Result → Shared → Prop), AOk A d → Rel X env fz kp kg ρ st s → Apart X env fz kp ρ I → s.heap.get? I = some o → o.cls = .type "list_iterator" → o.data = .fields #[.ref l, .int k 0] → ρ[i]? = some l → vs.drop k = xs →
    (∀ fz' ρ' g s', Rel X env fz' kp kg ρ' st' s' → Grow fz ρ fz' ρ' → FRel fz' ρ' f g → R (.ok g) s') → codeAny (model X.prog X.w) A (.forLoop target (.ref I) body [] env) R s := by
  induction h with
  | nil hi =>
    intro A fz kp kg ρ s I o l k Rz ok R a hI hc hd hl hk q
    refine codeAny_of_tree ?_
    rw [Around.under_of_weight (by rfl) (by rfl)]
    show wpAny _ _ ((forTurn target (.ref I) body [] env).onRaise _) _ _ s
    refine wpAny_onRaise ?_
    simp only [forTurn]
    obtain ⟨ob, h1, arr, ep, rfl, h2⟩ := R.ild i l _ hl hi
    refine wpAny_bind (wpAny_standAt (wpAny_bind (wpAny_onRaise (wpAny_pyNext_list_end ok.h ⟨_, hI, hc, hd⟩ ⟨_, h1, rfl, _, rfl⟩ (by
      rw [← Array.getElem?_toList]
      exact h2.getNone (drop_nil hk)) fun h' hx => ?_))))
    refine wpAny_pure (And.intro rfl ?_)
    refine codeAny_of_tree ?_
    rw [Around.under_of_weight (by rfl) (by rfl)]
    show wpAny _ _ (do return Fin.done (← (execs [] env).onRaise _)) _ _ _
    refine wpAny_bind (wpAny_onRaise (wpAny_execs_nil (wpAny_pure ?_)))
    exact q _ _ _ _ (R.ext (tk := s.toks) a hx) (.refl _ _) rfl
  | weak hs h ih => exact fun k Rz ok R a hI hc hd hl hk q => ih k Rz ok (R.sub hs) a hI hc hd hl hk q
  | next hi h1 h2 hf h3 ih =>
    intro A fz kp kg ρ s I o l k Rz ok R a hI hc hd hl hk q
    refine codeAny_of_tree ?_
    rw [Around.under_of_weight (by rfl) (by rfl)]
    show wpAny _ _ ((forTurn target (.ref I) body [] env).onRaise _) _ _ s
    refine wpAny_onRaise ?_
    simp only [forTurn]
    obtain ⟨ob, k1, arr, ep, rfl, k2⟩ := R.ild i l _ hl hi
    obtain ⟨e1, e2⟩ := drop_cons hk
    obtain ⟨u, e3, hu⟩ := k2.get e1
    refine wpAny_bind (wpAny_standAt (wpAny_bind (wpAny_onRaise (wpAny_pyNext_list_item ⟨_, hI, hc, hd⟩ ⟨_, k1, rfl, _, rfl⟩ (by rw [← Array.getElem?_toList]; exact e3) fun h' ⟨o', ho, c1, c2⟩ hs => ?_))))
    dsimp only
    rw [owned_plain hpl]
    refine wpAny_bind (wpAny_pure ?_)
    have R₁ := (R.same (tk := s.toks) a hs).put a ho
    refine wpAny_bind (h1 A fz _ kg ρ _ u ok R₁ hu _ _ fun fz₂ ρ₂ _ s₂ R₂ g₂ _ => ?_)
    refine wpAny_bind (h2 A fz₂ _ kg ρ₂ s₂ ok R₂ _ _ fun fz₃ ρ₃ fl s₃ R₃ g₃ hfl => ?_)
    obtain ⟨R₄, a₄, hI₄⟩ := R₃.unput a.kp
    have fin : codeAny (model X.prog X.w) A (.forLoop target (.ref I) body [] env) Rz s₃ := ih (k + 1) Rz ok R₄ a₄ hI₄ c1 c2 ((g₂.trans g₃).at hl) e2 fun fz' ρ' g s' R' g' hg => q _ _ _ _ R' ((g₂.trans g₃).trans g') hg
    rcases hf with rfl | rfl
    · have e : fl = .next := hfl
      subst e
      exact wpAny_pure ⟨rfl, fin⟩
    · have e : fl = .cont := hfl
      subst e
      exact wpAny_pure ⟨rfl, fin⟩
  | ret hi h1 h2 =>
    intro A fz kp kg ρ s I o l k Rz ok R a hI hc hd hl hk q
    refine codeAny_of_tree ?_
    rw [Around.under_of_weight (by rfl) (by rfl)]
    show wpAny _ _ ((forTurn target (.ref I) body [] env).onRaise _) _ _ s
    refine wpAny_onRaise ?_
    simp only [forTurn]
    obtain ⟨ob, k1, arr, ep, rfl, k2⟩ := R.ild i l _ hl hi
    obtain ⟨e1, e2⟩ := drop_cons hk
    obtain ⟨u, e3, hu⟩ := k2.get e1
    refine wpAny_bind (wpAny_standAt (wpAny_bind (wpAny_onRaise (wpAny_pyNext_list_item ⟨_, hI, hc, hd⟩ ⟨_, k1, rfl, _, rfl⟩ (by rw [← Array.getElem?_toList]; exact e3) fun h' ⟨o', ho, c1, c2⟩ hs => ?_))))
    dsimp only
    rw [owned_plain hpl]
    refine wpAny_bind (wpAny_pure ?_)
    have R₁ := (R.same (tk := s.toks) a hs).put a ho
    refine wpAny_bind (h1 A fz _ kg ρ _ u ok R₁ hu _ _ fun fz₂ ρ₂ _ s₂ R₂ g₂ _ => ?_)
    refine wpAny_bind (h2 A fz₂ _ kg ρ₂ s₂ ok R₂ _ _ fun fz₃ ρ₃ fl s₃ R₃ g₃ hfl => ?_)
    obtain ⟨R₄, a₄, hI₄⟩ := R₃.unput a.kp
    obtain ⟨w, rfl, hw⟩ := hfl
    exact wpAny_pure (q _ _ _ _ R₄ (g₂.trans g₃) ⟨w, rfl, hw⟩)

theorem ExS.forR {target iter : Expr} {body : List Stmt} {pos : Pos} {i : Nat} {vs : List MVal} {f : MFlow} (h1 : EvE X env d iter st (.ref i) st₁) (hi : st₁.led[i]? = some (.lst vs)) (hpl : plainTarget target = true) (h3 : ForR X env d target body i vs vs st₁ f st') (hs : ∀ x, foldedSetIterable iter env x = pure x := by intro _; rfl) :
    ExS X env d (.For target iter body [] pos) st f st' :=
  fun A fz kp kg ρ s ok R Q E q => wpAny_For (h1 A fz kp kg ρ s ok R _ _ fun fz₁ ρ₁ va s₁ R₁ g₁ r₁ => by
    simp only [VRel] at r₁
    obtain ⟨l, hl, rfl⟩ := r₁
    obtain ⟨ob, k1, arr, ep, rfl, k2⟩ := R₁.ild i l _ hl hi
    refine wpAny_pyIter_list ⟨_, k1, rfl, _, rfl⟩ ?_
    have hn : s₁.heap.get? s₁.heap.objs.size = none := none_of_size
    refine h3.code hpl 0 _ ok (R₁.keep (h' := s₁.heap.push _) (tk := s₁.toks) fun _ _ e => Heap.get?_push_of_some _ e) (Apart.new R₁ hn) (Heap.get?_push_size _ rfl) rfl rfl hl rfl fun fz' ρ' g s' R' g' hg => ?_
    exact q _ _ _ _ R' (g₁.trans g') hg) hs
end
end Mine
end
section
open PySem PySem.W PySem.Calls PyProof.Rows PySem.MeetsSeq
set_option linter.all false
set_option maxRecDepth 100000
namespace Mine
section
variable {X : SX} {env : Env} {d : Nat} {st st' st₁ st₂ : St} {fz kp : FH} {kg : Nat → Option GenState} {ρ : List Addr} {led : List MObj} {s : Shared}

theorem strs_rel {fz : FH} {ρ : List Addr} : ∀ {xs : List Str} {us : List Value}, VRels fz ρ (xs.map MVal.str) us → ∃ l : List (Str × Tok), us = strValues l ∧ l.map (·.1) = xs
  | [], us, h => by simp only [List.map_nil, VRels] at h; subst h; exact ⟨[], rfl, rfl⟩
  | x :: xs, us, h => by
    simp only [List.map_cons, VRels, VRel] at h
    obtain ⟨v, r, rfl, ⟨t, rfl⟩, h2⟩ := h
    obtain ⟨l, rfl, h3⟩ := strs_rel h2
    exact ⟨(x, t) :: l, rfl, by simp [h3]⟩

theorem MtE.join {x : Str} : MtE X env d (.str x) "join" st (.obj (.builtin "str.join")) [.str x] st := fun A fz kp kg ρ s va pl ok R h Q E q => by
  have h' := h
  simp only [VRel] at h
  obtain ⟨t, rfl⟩ := h
  exact getMethod_builtin (typeIs_str _ _ _) F.plainAttrs_str F.slot_str_join F.type_str_join (fun _ e => nomatch e) (q _ _ _ _ R (.refl _ _) ⟨by simp [VRel], by simp only [VRels]; exact ⟨_, _, rfl, h', rfl⟩⟩)

theorem MtE.pop {i : Nat} {vs : List MVal} (hi : st.led[i]? = some (.lst vs)) : MtE X env d (.ref i) "pop" st (.obj (.builtin "list.pop")) [.ref i] st := fun A fz kp kg ρ s va pl ok R h Q E q => by
  have h' := h
  obtain ⟨a, arr, ep, h1, rfl, hl, hv, hz⟩ := ref_is R.toLRel hi h
  exact getMethod_builtin ⟨_, hl, rfl⟩ F.plainAttrs_list F.slot_list_pop F.type_list_pop (fun b e => by cases e; exact ⟨_, hl, rfl⟩) (q _ _ _ _ R (.refl _ _) ⟨by simp [VRel], by simp only [VRels]; exact ⟨_, _, rfl, h', rfl⟩⟩)
theorem AppE.pop {i : Nat} {vs : List MVal} {v : MVal} (hi : st.led[i]? = some (.lst (vs ++ [v]))) (hz : vs.length < 10000000) : AppE X env d (.obj (.builtin "list.pop")) [.ref i] [] st v (st.wled (st.led.set i (.lst vs))) :=
  fun A fz kp kg ρ s fv us kvs ok R hf hv hk Q E q => by
    have ek := kvs_nil hk; subst ek
    simp only [VRel] at hf; subst hf
    simp only [VRels] at hv
    obtain ⟨y, r, rfl, h1, rfl⟩ := hv
    obtain ⟨a, arr, ep, e1, rfl, hl, hvs, hz'⟩ := ref_is R.toLRel hi h1
    have hlen : arr.size = vs.length + 1 := by rw [hz']; simp
    obtain ⟨u, hu, hr⟩ := hvs.get (k := vs.length) (v := v) (by simp)
    refine call_meets F.slot_list_pop ⟨_, hl, rfl⟩ F.entry_list_pop (F.args_list_pop_1 _) (list_pop_last a arr ep u (by rw [← Array.getElem?_toList, hlen]; exact hu) (by rw [sizeLine_eq]; omega)) ⟨hl, ?_⟩
    obtain ⟨n', e2⟩ : ∃ n', Obj.mapSeq (fun xs => xs.eraseIdxIfInBounds (arr.size - 1)) (lstO arr ep) = lstO (arr.eraseIdxIfInBounds (arr.size - 1)) n' := ⟨_, rfl⟩
    have hget := Heap.get?_update_self (Obj.mapSeq (fun xs => xs.eraseIdxIfInBounds (arr.size - 1))) hl (by rw [e2]; rfl)
    rw [e2] at hget
    refine q _ _ _ _ (R.updL (tk := s.toks) e1 Heap.upd_same hget ⟨_, _, rfl, ?_⟩) (.refl _ _) hr
    have e3 : (arr.eraseIdxIfInBounds (arr.size - 1)).toList = arr.toList.take vs.length := by
      unfold Array.eraseIdxIfInBounds
      rw [dif_pos (by omega), Array.toList_eraseIdx, hlen, Nat.add_sub_cancel]
      have hl2 : arr.toList.length = vs.length + 1 := by simpa using hlen
      rw [List.eraseIdx_eq_take_drop_succ, List.drop_of_length_le (by omega), List.append_nil]
    rw [e3]
    clear e3 hget e2 hu hr hlen
    generalize arr.toList = us at hvs
    have : ∀ (vs : List MVal) (us : List Value), VRels fz ρ (vs ++ [v]) us → VRels fz ρ vs (us.take vs.length) := by
      intro vs
      induction vs with
      | nil => intro us _; simp [VRels]
      | cons x xs ih =>
        intro us h
        simp only [List.cons_append, VRels] at h
        obtain ⟨w, r, rfl, h1, h2⟩ := h
        simp only [List.length_cons, List.take_succ_cons, VRels]
        exact ⟨w, _, rfl, h1, ih r h2⟩
    exact this vs us hvs

theorem AppE.join {x : Str} {xs : List Str} (hok : JoinOk x xs = true) : AppE X env d (.obj (.builtin "str.join")) [.str x, .lst (xs.map MVal.str)] [] st (.str (Txt.join x xs)) st :=
  fun A fz kp kg ρ s fv us kvs ok R hf hv hk Q E q => by
    have ek := kvs_nil hk; subst ek
    simp only [VRel] at hf; subst hf
    simp only [VRels] at hv
    obtain ⟨y, r, rfl, h1, z, r', rfl, h2, rfl⟩ := hv
    simp only [VRel] at h1
    obtain ⟨t, rfl⟩ := h1
    obtain ⟨a, arr, rfl, hl, hvs, hz⟩ := lst_is R.toLRel h2
    obtain ⟨l, e1, e2⟩ := strs_rel hvs
    have e3 : arr = (strValues l).toArray := by rw [← e1]
    exact SC.join (e3 ▸ hl.isList) e2 hok fun t' k => q _ _ _ _ (R.tk _) (.refl _ _) (by simp [VRel])

/-- list + list: a new list, frozen -/
theorem BinE.addL {vs ws : List MVal} (hz : vs.length + ws.length ≤ 10000000) : BinE X env d .Add (.lst vs) (.lst ws) st (.lst (vs ++ ws)) st := fun A fz kp kg ρ s va vb ok R ha hb Q E q => by
  obtain ⟨a, arr, rfl, ⟨ep, hl⟩, hv, hz1⟩ := lst_is R.toLRel ha
  obtain ⟨b, brr, rfl, ⟨ep', hl'⟩, hv', hz2⟩ := lst_is R.toLRel hb
  refine PySem.P.add_list (hsz := by rw [sizeLine_eq]; omega) hl hl' ?_
  have hn : s.heap.get? s.heap.objs.size = none := none_of_size
  have g : Grow fz ρ _ ρ := grow_upd (o := lstO (arr ++ brr) 0) (R.fz_none hn)
  refine q _ _ _ _ (R.new (tk := s.toks) hn (fun _ _ e => Heap.get?_push_of_some _ e) (Heap.get?_push_size _ rfl)) g ?_
  simp only [VRel]
  refine ⟨_, _, 0, rfl, upd_self .., ?_⟩
  rw [Array.toList_append]
  exact VRels.grow g _ _ (VRels.append hv hv')

theorem ExL.forRex {target iter : Expr} {body r : List Stmt} {pos : Pos} {i : Nat} {vs : List MVal} {f : MFlow} {led' led'' : List MObj} (h1 : EvE X env d iter st (.ref i) st₁) (hi : st₁.led[i]? = some (.lst vs)) (hpl : plainTarget target = true) (h3 : ∃ s', ForR X env d target body i vs vs st₁ .next s' ∧ s'.led = led')
    (h4 : ∀ s', s'.led = led' → ∃ s'', ExL X env d r s' f s'' ∧ s''.led = led'') (hs : ∀ x, foldedSetIterable iter env x = pure x := by intro _; rfl) : ∃ s'', ExL X env d (.For target iter body [] pos :: r) st f s'' ∧ s''.led = led'' := by
  obtain ⟨s', h5, h6⟩ := h3
  obtain ⟨s'', h7, h8⟩ := h4 s' h6
  exact ⟨s'', .cons (.forR h1 hi hpl h5 hs) h7, h8⟩
end
end Mine
end
section
open PySem PySem.W PySem.Calls PyProof.Rows
set_option linter.all false
set_option maxRecDepth 100000
namespace Mine

/-- a piece of a generator's work, with any condition on how it ends -/
def Sg (M : Model) (A : Around) (Φ : PySem.End → Shared → Prop) (c : Code) (t : Sem Fin) (fs : List Frame) (s : Shared) : Prop :=
  ∀ Γ p, Γ.code = c → Γ.Woken A → ∃ e s', Runs M Γ p t fs s e s' ∧ Φ e s'

section
variable {M : Model} {A : Around} {Φ : PySem.End → Shared → Prop} {c : Code} {fs : List Frame} {s : Shared}
theorem Sg.wrap {α : Type} {m : Sem α} {K : α → Sem Fin} {H : Value → Sem Fin} {gd lv}
    (h : wpAny M (A.over c fs) m (fun a s' => Sg M A Φ c (K a) fs s') (fun x s' => Sg M A Φ c (H x) fs s') s) : Sg M A Φ c (m.wrap K H gd lv) fs s := by
  rintro Γ p rfl hΓ
  exact runs_wrap_of_wp K H gd lv m (h (Γ.over fs) p (hΓ.over fs)) (fun a p' s' h' => h' Γ p' rfl hΓ) (fun x p' s' h' => h' Γ p' rfl hΓ)
theorem Sg.bind {α : Type} {m : Sem α} {K : α → Sem Fin}
    (h : wpAny M (A.over c fs) m (fun a s' => Sg M A Φ c (K a) fs s') (fun x s' => Sg M A Φ c (.raise x) fs s') s) : Sg M A Φ c (m >>= K) fs s := by
  rw [Sem.bind_eq_wrap']; exact Sg.wrap h
theorem Sg.at {p' : Pos} {k : Unit → Sem Fin} (h : Sg M A Φ c (k ()) fs s) : Sg M A Φ c (.at p' k) fs s :=
  Sg.wrap (m := standAt p') (K := k) (H := .raise) (gd := id) (lv := id) (wpAny_standAt h)
theorem Sg.point {l : List Value} {k : Unit → Sem Fin} (h : Sg M A Φ c (k ()) fs s) : Sg M A Φ c (.point l k) fs s :=
  Sg.wrap (m := PySem.point) (K := k) (H := .raise) (gd := id) (lv := fun _ => l) (wpAny_point h)
theorem Sg.call {c' : Code} {h g l} {k : Result → Sem Fin} (hc : ∀ p, Sg M A Φ c' (M.den c') (.ret k h g l c p [] :: fs) s) : Sg M A Φ c (.call c' h g l k) fs s := by
  rintro Γ p rfl hΓ
  obtain ⟨e, s', hr, he⟩ := hc p (Γ.goto c') p rfl (hΓ.goto c')
  exact ⟨e, s', runs_call_seg hr, he⟩
theorem Sg.leaf {k h g l c₁ p₁ kp} (r : Result) (hk : Sg M A Φ c₁ (k r) fs s) : Sg M A Φ c (leafOf r) (.ret k h g l c₁ p₁ kp :: fs) s := by
  rintro Γ p rfl hΓ
  obtain ⟨e, s', hr, he⟩ := hk (Γ.goto c₁) p₁ rfl (hΓ.goto c₁)
  exact ⟨e, s', Runs.pop r hr, he⟩
theorem Sg.again {c' : Code} (hq : c'.quiet = true) (hc : Sg M A Φ c' (M.den c') fs s) : Sg M A Φ c (.pure (.again c')) fs s := by
  rintro Γ p rfl hΓ
  obtain ⟨e, s', hr, he⟩ := hc (Γ.goto c') p rfl (hΓ.goto c')
  exact ⟨e, s', Runs.head (c₁ := c') (fun _ _ x => .again hq x) hr, he⟩
theorem Sg.done (r : Result) (h : Φ (.ret r) s) : Sg M A Φ c (leafOf r) [] s := by
  rintro Γ p rfl _
  exact ⟨.ret r, s, Runs.leaf r, h⟩
theorem Sg.yield {v g l} {k : Resume → Sem Fin} (hfs : splitAtGen fs = none) (h : ∀ p, Φ (.susp v g l k c p fs) s) : Sg M A Φ c (.yield v g l k) fs s := by
  rintro Γ p rfl _
  exact ⟨_, s, Runs.yield' fs hfs, h p⟩

/-- how a generator that rests goes on -/
def GoesS (M : Model) (A : Around) (Φ : PySem.End → Shared → Prop) (gs : GenState) (r : Resume) (s : Shared) : Prop :=
  match gs with
  | .fresh c => r = .send .none ∧ Sg M A Φ c (M.den c) [] s
  | .suspended k _ c _ fs _ => Sg M A Φ c (k r) fs s
  | _ => False

theorem wpAny_resumeS {E : Value → Shared → Prop} {g : Nat} {gs : GenState} {r : Resume} {l : List Value} {α : Type} {k : GenResult → Sem α} {Q : α → Shared → Prop} (hg : s.gens[g]? = some gs)
    (hgo : GoesS M A Φ gs r (s.setGen g .running)) (hΦ : ∀ e s₁, Φ e s₁ → e.quiet = true ∧ wpAny M A (k e.result) Q E (s₁.setGen g e.genState)) : wpAny M A (.resume g r l k) Q E s := by
  intro Γ p hΓ
  rw [Sem.wp_resume]
  have hB : ∀ c, (Γ.wake c p).Woken A := fun c => hΓ.wake c p
  cases gs with
  | fresh c =>
    obtain ⟨rfl, hs⟩ := hgo
    obtain ⟨e₁, s₁, hr, he⟩ := hs (Γ.wake c p) p rfl (hB c)
    exact ⟨_, _, by unfold Wakes; rw [hg]; exact ⟨e₁, s₁, hr, (hΦ e₁ s₁ he).1, rfl, rfl⟩, (hΦ e₁ s₁ he).2 Γ p hΓ⟩
  | suspended k₀ l₀ c₀ p₀ fs₀ cl =>
    obtain ⟨e₁, s₁, hr, he⟩ := hgo (Γ.wake c₀ p) p₀ rfl (hB c₀)
    exact ⟨_, _, by unfold Wakes; rw [hg]; exact ⟨e₁, s₁, hr, (hΦ e₁ s₁ he).1, rfl, rfl⟩, (hΦ e₁ s₁ he).2 Γ p hΓ⟩
  | running => exact hgo.elim
  | finished => exact hgo.elim
end

section
variable {M : Model} {A : Around} {Φ : PySem.End → Shared → Prop} {c : Code} {fs : List Frame} {s : Shared} {env : Env} {K : Flow → Sem Fin} {H : Value → Sem Fin} {gd : Bool → Bool} {lv : List Value → List Value}
theorem Sg.execs_nil (h : Sg M A Φ c (K .next) fs s) : Sg M A Φ c ((execs [] env).wrap K H gd lv) fs s := h
theorem Sg.execs_cons {st : Stmt} {rest : List Stmt}
    (h : Sg M A Φ c ((exec st env).wrap (fun f => match f with | .next => (execs rest env).wrap K H gd lv | f => K f) H gd lv) fs s) :
    Sg M A Φ c ((execs (st :: rest) env).wrap K H gd lv) fs s := by rw [execs_cons_wrap]; exact h

/-- «yield e» as a statement -/
theorem Sg.yieldS {e : Expr} {ypos pos : Pos} (hfs : splitAtGen fs = none) (hgd : gd false = false) (hfg : fs.any Frame.guarded = false)
    (h : wpAny M (A.over c fs) (eval e env) (fun v s' => ∀ (k : Resume → Sem Fin) g l p, (PySem.End.susp v g l k c p fs).quiet = true →
        (∀ A' Φ' s'', Sg M A' Φ' c (K .next) fs s'' → Sg M A' Φ' c (k (.send .none)) fs s'') → Φ (.susp v g l k c p fs) s')
      (fun x s' => Sg M A Φ c (H x) fs s') s) (hco : env.scope.isCoroutine = false) (hi : interactive env = false) :
    Sg M A Φ c ((exec (.Expr (.Yield (some e) ypos) pos) env).wrap K H gd lv) fs s := by
  rw [exec_Expr env _ pos hi rfl]
  show Sg M A Φ c (.at pos fun _ => ((eval e env >>= fun v => (standAt ypos >>= fun _ => yieldOut env v)) >>= fun x =>
    dropValue (.Yield (some e) ypos) pos x).wrap K H gd lv) fs s
  have hy : ∀ v, yieldOut env v = yieldValue v := fun v => by simp only [yieldOut, hco, Bool.false_eq_true, if_false]
  simp only [hy]
  refine Sg.at ?_
  rw [Sem.bind_eq_wrap', Sem.bind_eq_wrap', Sem.wrap_wrap, Sem.wrap_wrap]
  refine Sg.wrap (wpAny_mono h (fun v s' h' => ?_) fun _ _ x => x)
  refine Sg.at (Sg.yield hfs fun p => ?_)
  refine h' _ _ _ p (by simp [End.quiet, hgd, hfg]) fun A' Φ' s'' hx => ?_
  exact hx
end
end Mine
end
section
open PySem PySem.W PySem.Calls PyProof.Rows
set_option linter.all false
set_option maxRecDepth 100000
namespace Mine

def orF {α β : Type} (a b : α → Option β) : α → Option β := fun x => match a x with | some y => some y | none => b x
def Disj {α β : Type} (a b : α → Option β) : Prop := ∀ x, a x = none ∨ b x = none
theorem orF_none {α β : Type} {a b : α → Option β} {x : α} (h : orF a b x = none) : a x = none ∧ b x = none := by
  unfold orF at h
  cases q : a x with
  | none => rw [q] at h; exact ⟨rfl, h⟩
  | some y => rw [q] at h; cases h
def keepOn (pr : FH) (L : Addr) (o : Obj) : FH := fun b => if b = L then some o else pr b
theorem keepOn_or {pr kp : FH} {L : Addr} {o : Obj} : (fun b => if b = L then some o else orF pr kp b) = orF (keepOn pr L o) kp := by
  funext b
  unfold orF keepOn
  by_cases h : b = L
  · simp [h]
  · simp [h]

abbrev mdl (X : SX) : Model := model X.prog X.w

/-- a generator that rests: what it will give, with the ledger at each gift, and the ledger at its end -/
def GenIs (X : SX) (d : Nat) (ledf : List MObj) (ρ : List Addr) : List (MVal × List MObj) → List MObj → FH → FH → (Nat → Option GenState) → GenState → Prop
  | [], led, fz, pr, pg, gs => ∀ A fz' kp kg s, AOk A d → Grow fz ρ fz' ρ → Disj pr kp → Disj pg kg → LRel X fz' (orF pr kp) (orF pg kg) ρ led s →
      GoesS (mdl X) A (fun e s' => e = .ret (.ok (.ret .none)) ∧ ∃ fz'', Grow fz' ρ fz'' ρ ∧ LRel X fz'' kp kg ρ ledf s') gs (.send .none) s
  | (v, led') :: r, led, fz, pr, pg, gs => ∀ A fz' kp kg s, AOk A d → Grow fz ρ fz' ρ → Disj pr kp → Disj pg kg → LRel X fz' (orF pr kp) (orF pg kg) ρ led s →
      GoesS (mdl X) A (fun e s' => e.quiet = true ∧ ∃ u fz'' pr' pg', e.result = .yielded u ∧ Grow fz' ρ fz'' ρ ∧ VRel fz'' ρ v u ∧ Disj pr' kp ∧ Disj pg' kg ∧ LRel X fz'' (orF pr' kp) (orF pg' kg) ρ led' s' ∧ GenIs X d ledf ρ r led' fz'' pr' pg' e.genState) gs (.send .none) s
/-- how a piece of its work ends -/
def OutP (X : SX) (d : Nat) (ledf : List MObj) (ρ : List Addr) (outs : List (MVal × List MObj)) (kp : FH) (kg : Nat → Option GenState) (fz' : FH) (e : PySem.End) (s' : Shared) : Prop :=
  match outs with
  | [] => e = .ret (.ok (.ret .none)) ∧ ∃ fz'', Grow fz' ρ fz'' ρ ∧ LRel X fz'' kp kg ρ ledf s'
  | (v, led') :: r => e.quiet = true ∧ ∃ u fz'' pr' pg', e.result = .yielded u ∧ Grow fz' ρ fz'' ρ ∧ VRel fz'' ρ v u ∧ Disj pr' kp ∧ Disj pg' kg ∧ LRel X fz'' (orF pr' kp) (orF pg' kg) ρ led' s' ∧ GenIs X d ledf ρ r led' fz'' pr' pg' e.genState
theorem GenIs.iff {X : SX} {d : Nat} {ledf : List MObj} {ρ : List Addr} {outs : List (MVal × List MObj)} {led : List MObj} {fz pr : FH} {pg : Nat → Option GenState} {gs : GenState} :
    GenIs X d ledf ρ outs led fz pr pg gs ↔ ∀ A fz' kp kg s, AOk A d → Grow fz ρ fz' ρ → Disj pr kp → Disj pg kg → LRel X fz' (orF pr kp) (orF pg kg) ρ led s → GoesS (mdl X) A (OutP X d ledf ρ outs kp kg fz') gs (.send .none) s := by
  cases outs with
  | nil => unfold GenIs OutP; exact Iff.rfl
  | cons p r => obtain ⟨v, led'⟩ := p; unfold GenIs OutP; exact Iff.rfl
theorem OutP.mono {X : SX} {d : Nat} {ledf : List MObj} {ρ : List Addr} {outs : List (MVal × List MObj)} {kp : FH} {kg : Nat → Option GenState} {fz fz' : FH} (g : Grow fz ρ fz' ρ) {e : PySem.End} {s : Shared} (h : OutP X d ledf ρ outs kp kg fz' e s) : OutP X d ledf ρ outs kp kg fz e s := by
  unfold OutP at h ⊢
  cases outs with
  | nil => obtain ⟨h1, fz'', h2, h3⟩ := h; exact ⟨h1, fz'', g.trans h2, h3⟩
  | cons p r =>
    obtain ⟨v, led'⟩ := p
    obtain ⟨h1, u, fz'', pr', pg', h2, h3, h4⟩ := h
    exact ⟨h1, u, fz'', pr', pg', h2, g.trans h3, h4⟩
theorem Sg.mono {M : Model} {A : Around} {Φ Φ' : PySem.End → Shared → Prop} {c : Code} {t : Sem Fin} {fs : List Frame} {s : Shared} (h : Sg M A Φ c t fs s) (hm : ∀ e s', Φ e s' → Φ' e s') : Sg M A Φ' c t fs s := fun Γ p hc hΓ =>
  let ⟨e, s', hr, he⟩ := h Γ p hc hΓ; ⟨e, s', hr, hm e s' he⟩

structure FrOk (c : Code) (fs : List Frame) (d : Nat) : Prop where
  over : ∀ A, AOk A (d + 1) → AOk (A.over c fs) d
  split : splitAtGen fs = none
  guard : fs.any Frame.guarded = false

/-- a piece of a generator's suite -/
def GsT (X : SX) (d : Nat) (env : Env) (m : Sem Flow) (st : St) (ys : List (MVal × List MObj)) (f : MFlow) (st' : St) : Prop :=
  ∀ A c fs (K : Flow → Sem Fin) (H : Value → Sem Fin) gd lv outs ledf fz pr pg kp kg ρ s, AOk A (d + 1) → FrOk c fs d → gd false = false → Disj pr kp → Disj pg kg → Rel X env fz (orF pr kp) (orF pg kg) ρ st s →
    (∀ A' fz' kp' kg' s' fl, AOk A' (d + 1) → Grow fz ρ fz' ρ → Disj pr kp' → Disj pg kg' → Rel X env fz' (orF pr kp') (orF pg kg') ρ st' s' → FRel fz' ρ f fl → Sg (mdl X) A' (OutP X (d + 1) ledf ρ outs kp' kg' fz') c (K fl) fs s') →
    Sg (mdl X) A (OutP X (d + 1) ledf ρ (ys ++ outs) kp kg fz) c (m.wrap K H gd lv) fs s

section
variable {X : SX} {env : Env} {d : Nat} {st st' st₁ st₂ : St}

theorem same_ρ {fz fz' kp kp' : FH} {kg kg' : Nat → Option GenState} {ρ ρ' : List Addr} {led led' : List MObj} {s s' : Shared} (R : LRel X fz kp kg ρ led s) (R' : LRel X fz' kp' kg' ρ' led' s') (g : Grow fz ρ fz' ρ') (h : led'.length = led.length) : ρ' = ρ := by
  obtain ⟨_, t, rfl⟩ := g
  have h1 := R.len
  have h2 := R'.len
  rw [List.length_append] at h2
  have : t = [] := List.length_eq_zero_iff.mp (by omega)
  rw [this, List.append_nil]

/-- what yields nothing -/
theorem GsT.plain {t : Stmt} {f : MFlow} (h : ExS X env d t st f st') (hl : st'.led.length = st.led.length) : GsT X d env (exec t env) st [] f st' := by
  intro A c fs K H gd lv outs ledf fz pr pg kp kg ρ s ok F hgd d1 d2 R q
  refine Sg.wrap (h (A.over c fs) fz _ _ ρ s (F.over A ok) R _ _ fun fz' ρ' fl s' R' g hfl => ?_)
  have e := same_ρ R.toLRel R'.toLRel g hl
  subst e
  exact (q A fz' kp kg s' fl ok g d1 d2 R' hfl).mono fun e s'' => OutP.mono g
theorem GsT.nil : GsT X d env (execs [] env) st [] .next st := by
  intro A c fs K H gd lv outs ledf fz pr pg kp kg ρ s ok F hgd d1 d2 R q
  exact Sg.execs_nil (q A fz kp kg s .next ok (.refl _ _) d1 d2 R rfl)
theorem GsT.cons {t : Stmt} {r : List Stmt} {ys zs : List (MVal × List MObj)} {f : MFlow} (h1 : GsT X d env (exec t env) st ys .next st₁) (h2 : GsT X d env (execs r env) st₁ zs f st') : GsT X d env (execs (t :: r) env) st (ys ++ zs) f st' := by
  intro A c fs K H gd lv outs ledf fz pr pg kp kg ρ s ok F hgd d1 d2 R q
  rw [List.append_assoc]
  refine Sg.execs_cons (h1 A c fs _ H gd lv (zs ++ outs) ledf fz pr pg kp kg ρ s ok F hgd d1 d2 R fun A' fz' kp' kg' s' fl ok' g' d1' d2' R' hfl => ?_)
  have e : fl = .next := hfl
  subst e
  exact h2 A' c fs K H gd lv outs ledf fz' pr pg kp' kg' ρ s' ok' F hgd d1' d2' R' fun A'' fz'' kp'' kg'' s'' fl ok'' g'' d1'' d2'' R'' hfl => q A'' fz'' kp'' kg'' s'' fl ok'' (g'.trans g'') d1'' d2'' R'' hfl
theorem GsT.stop {t : Stmt} {r : List Stmt} {ys : List (MVal × List MObj)} {f : MFlow} (h1 : GsT X d env (exec t env) st ys f st') (hf : f ≠ .next) : GsT X d env (execs (t :: r) env) st ys f st' := by
  intro A c fs K H gd lv outs ledf fz pr pg kp kg ρ s ok F hgd d1 d2 R q
  refine Sg.execs_cons (h1 A c fs _ H gd lv outs ledf fz pr pg kp kg ρ s ok F hgd d1 d2 R fun A' fz' kp' kg' s' fl ok' g' d1' d2' R' hfl => ?_)
  have := q A' fz' kp' kg' s' fl ok' g' d1' d2' R' hfl
  cases f with
  | next => exact absurd rfl hf
  | brk => have e : fl = .brk := hfl; subst e; exact this
  | cont => have e : fl = .cont := hfl; subst e; exact this
  | ret v => obtain ⟨u, rfl, _⟩ := hfl; exact this
/-- «yield e» -/
theorem GsT.yieldS {e : Expr} {ypos pos : Pos} {v : MVal} (h : EvE X env d e st v st') (hl : st'.led.length = st.led.length) (hco : env.scope.isCoroutine = false := by rfl) (hi : interactive env = false := by rfl) :
    GsT X d env (exec (.Expr (.Yield (some e) ypos) pos) env) st [(v, st'.led)] .next st' := by
  intro A c fs K H gd lv outs ledf fz pr pg kp kg ρ s ok F hgd d1 d2 R q
  refine Sg.yieldS F.split hgd F.guard (h (A.over c fs) fz _ _ ρ s (F.over A ok) R _ _ fun fz' ρ' u s' R' g hu k gg l p hq hk => ?_) hco hi
  have e := same_ρ R.toLRel R'.toLRel g hl
  subst e
  obtain ⟨oL, eL, LH⟩ := R'.hide
  rw [keepOn_or] at LH
  obtain ⟨n1, n2⟩ := orF_none R'.offL.2.1
  have dk : Disj (keepOn pr env.locals oL) kp := fun x => by
    by_cases hx : x = env.locals
    · subst hx; exact .inr n2
    · rcases d1 x with h | h
      · exact .inl (by unfold keepOn; rw [if_neg hx]; exact h)
      · exact .inr h
  show OutP X (d + 1) ledf ρ' ((v, st'.led) :: outs) kp kg fz _ s'
  refine ⟨hq, u, fz', keepOn pr env.locals oL, pg, rfl, g, hu, dk, d2, LH, ?_⟩
  rw [GenIs.iff]
  intro A₂ fz₂ kp₂ kg₂ s₂ ok₂ g₂ dk₂ dg₂ L₂
  show Sg (mdl X) A₂ _ c (k (.send .none)) fs s₂
  have hkp₂ : kp₂ env.locals = none := by
    rcases dk₂ env.locals with h | h
    · unfold keepOn at h; simp at h
    · exact h
  have dp₂ : Disj pr kp₂ := fun x => by
    by_cases hx : x = env.locals
    · subst hx; exact .inl n1
    · rcases dk₂ x with h | h
      · unfold keepOn at h; rw [if_neg hx] at h; exact .inl h
      · exact .inr h
  rw [← keepOn_or] at L₂
  have R₂ := R'.back2 eL (kp' := orF pr kp₂) (by unfold orF; rw [n1]; exact hkp₂) L₂ g₂
  exact hk A₂ _ s₂ (q A₂ fz₂ kp₂ kg₂ s₂ .next ok₂ (g.trans g₂) dp₂ dg₂ R₂ rfl)
end
end Mine
end
section
open PySem PySem.W PySem.Calls PyProof.Rows
set_option linter.all false
set_option maxRecDepth 100000
namespace Mine

inductive GsF (X : SX) (d : Nat) (env : Env) (target : Expr) (body : List Stmt) : List MVal → St → List (MVal × List MObj) → St → Prop
  | nil {a : St} : GsF X d env target body [] a [] a
  | next {x : MVal} {r : List MVal} {a b c e : St} {f : MFlow} {ys zs : List (MVal × List MObj)} : StoreE X env d target x a b → b.led.length = a.led.length → GsT X d env (execs body env) b ys f c → f = .next ∨ f = .cont → GsF X d env target body r c zs e →
      GsF X d env target body (x :: r) a (ys ++ zs) e
  | weak {r : List MVal} {a a' e : St} {ys : List (MVal × List MObj)} : Sub a' a → GsF X d env target body r a' ys e → GsF X d env target body r a ys e

theorem keepAt_or {pr kp : FH} {L : Addr} {o : Obj} : keepAt (orF pr kp) L o = orF (keepOn pr L o) kp := keepOn_or

section
variable {X : SX} {env : Env} {d : Nat} {st st' st₁ st₂ : St}

theorem FrOk.loop {c : Code} {fs : List Frame} (F : FrOk c fs d) {c' : Code} (hw : c'.weight = 0) (hu : c'.cUnits = 0) {k : Result → Sem Fin} {g : Bool} {l : List Value} {p : Pos} {kp : List Value} (hg : g = false) : FrOk c' (.ret k none g l c p kp :: fs) d where
  over := fun A ok => by
    have h := F.over A ok
    have hh := h.h
    have hd := h.depth
    have hn := h.units
    refine ⟨?_, ?_, ?_⟩
    · exact hh
    · simp only [Around.over, List.map_cons, frameCount_cons, Frame.where_, hw] at hd ⊢
      omega
    · simp only [Around.over, List.map_cons, unitsOf_cons, Frame.where_, hu] at hn ⊢
      omega
  split := by
    show (splitAtGen fs).map _ = none
    rw [F.split]; rfl
  guard := by
    rw [List.any_cons, F.guard, Bool.or_false]; exact hg

theorem bind_wrap {α β : Type} (m : Sem α) (f : α → Sem β) {γ : Type} (K : β → Sem γ) (H : Value → Sem γ) (gd lv) : (m >>= f).wrap K H gd lv = m.wrap (fun a => (f a).wrap K H gd lv) H gd lv := by
  rw [Sem.bind_eq_wrap', Sem.wrap_wrap]
  exact Sem.wrap_congr _ _ _ (fun _ => rfl) (fun _ => rfl)

theorem GsF.loop {target : Expr} {body : List Stmt} {xs : List MVal} {ys : List (MVal × List MObj)} (h : GsF X d env target body xs st ys st') :
    ∀ {A c fs} (k : Result → Sem Fin) {g l p outs ledf fz pr pg kp kg ρ s I o}, AOk A (d + 1) → FrOk c fs d → g = false → Disj pr kp → Disj pg kg → Rel X env fz (orF pr kp) (orF pg kg) ρ st s → Apart X env fz (orF pr kp) ρ I → s.heap.get? I = some o → IterRel fz ρ xs o →
      (∀ A' fz' kp' kg' s', AOk A' (d + 1) → Grow fz ρ fz' ρ → Disj pr kp' → Disj pg kg' → Rel X env fz' (orF pr kp') (orF pg kg') ρ st' s' → Sg (mdl X) A' (OutP X (d + 1) ledf ρ outs kp' kg' fz') c (k (.ok .next)) fs s') →
      Sg (mdl X) A (OutP X (d + 1) ledf ρ (ys ++ outs) kp kg fz) (.forLoop target (.ref I) body [] env) ((mdl X).den (.forLoop target (.ref I) body [] env)) (.ret k none g l c p [] :: fs) s := by
  induction h with
  | nil =>
    intro A c fs k g l p outs ledf fz pr pg kp kg ρ s I o ok F hg d1 d2 R a hI hit q
    have F' : FrOk (.forLoop target (.ref I) body [] env) (.ret k none g l c p [] :: fs) d := F.loop rfl rfl hg
    show Sg _ _ _ _ ((forTurn target (.ref I) body [] env).onRaise _) _ _
    rw [Sem.onRaise_eq_wrap]
    unfold forTurn
    rw [bind_wrap]
    refine Sg.wrap (wpAny_standAt ?_)
    rw [bind_wrap]
    refine Sg.wrap (wpAny_onRaise (next_nil (F'.over A ok).h R.toLRel hI hit fun h' hx => ?_))
    refine Sg.again rfl ?_
    show Sg _ _ _ _ (do return Fin.done (← (execs [] env).onRaise _)) _ _
    refine Sg.leaf (.ok .next) ?_
    exact q A fz kp kg _ ok (.refl _ _) d1 d2 (R.ext (tk := s.toks) a hx)
  | weak hs h ih =>
    intro A c fs k g l p outs ledf fz pr pg kp kg ρ s I o ok F hg d1 d2 R a hI hit q
    exact ih k ok F hg d1 d2 (R.sub hs) a hI hit q
  | next h1 hl h2 hf h3 ih =>
    rename_i x r a₀ b₀ c₀ e₀ f₀ ys zs
    intro A c fs k g l p outs ledf fz pr pg kp kg ρ s I o ok F hg d1 d2 R a hI hit q
    have F' : FrOk (.forLoop target (.ref I) body [] env) (.ret k none g l c p [] :: fs) d := F.loop rfl rfl hg
    show Sg _ _ _ _ ((forTurn target (.ref I) body [] env).onRaise _) _ _
    rw [Sem.onRaise_eq_wrap]
    unfold forTurn
    rw [bind_wrap]
    refine Sg.wrap (wpAny_standAt ?_)
    rw [bind_wrap]
    refine Sg.wrap (wpAny_onRaise (next_cons R.toLRel hI hit fun h' tk u o' hs ho hit' hu => ?_))
    dsimp only
    rw [bind_wrap]
    refine Sg.wrap (owned_go (s := { s with heap := h', toks := tk }) ho hit' ?_)
    have R₁ := (R.same (tk := tk) a hs).put a ho
    rw [keepAt_or] at R₁
    obtain ⟨a1, a2⟩ := orF_none a.kp
    have dk : Disj (keepOn pr I o') kp := fun y => by
      by_cases hy : y = I
      · subst hy; exact .inr a2
      · rcases d1 y with h | h
        · exact .inl (by unfold keepOn; rw [if_neg hy]; exact h)
        · exact .inr h
    rw [bind_wrap]
    refine Sg.wrap (h1 (A.over _ _) fz _ _ ρ _ u (F'.over A ok) R₁ hu _ _ fun fz₂ ρ₂ _ s₂ R₂ g₂ _ => ?_)
    have e₂ := same_ρ R₁.toLRel R₂.toLRel g₂ hl
    subst e₂
    rw [bind_wrap, List.append_assoc]
    refine Sg.mono (h2 A _ _ _ _ id id (zs ++ outs) ledf fz₂ (keepOn pr I o') pg kp kg ρ₂ s₂ ok F' rfl dk d2 R₂ fun A' fz₃ kp₃ kg₃ s₃ fl ok₃ g₃ dk₃ dg₃ R₃ hfl => ?_) fun e s' => OutP.mono g₂
    have hkI : kp₃ I = none := by
      rcases dk₃ I with h | h
      · unfold keepOn at h; simp at h
      · exact h
    have dp₃ : Disj pr kp₃ := fun y => by
      by_cases hy : y = I
      · subst hy; exact .inl a1
      · rcases dk₃ y with h | h
        · unfold keepOn at h; rw [if_neg hy] at h; exact .inl h
        · exact .inr h
    rw [← keepAt_or] at R₃
    obtain ⟨R₄, a₄, hI₄⟩ := R₃.unput (by unfold orF; rw [a1]; exact hkI)
    have gg := g₂.trans g₃
    have fin := ih k (l := l) (p := p) (outs := outs) (ledf := ledf) ok₃ F hg dp₃ dg₃ R₄ a₄ hI₄ (hit'.grow gg) fun A' fz' kp' kg' s' ok' g' dp' dg' R' => q A' fz' kp' kg' s' ok' (gg.trans g') dp' dg' R'
    rcases hf with rfl | rfl
    · have e : fl = .next := hfl
      subst e
      exact Sg.again rfl fin
    · have e : fl = .cont := hfl
      subst e
      exact Sg.again rfl fin
end
end Mine
end
section
open PySem PySem.W PySem.Calls PyProof.Rows
set_option linter.all false
set_option maxRecDepth 100000
namespace Mine
section
variable {X : SX} {env : Env} {d : Nat} {st st' st₁ st₂ : St}

theorem GsT.for {target iter : Expr} {body : List Stmt} {pos : Pos} {v : MVal} {xs : List MVal} {ys : List (MVal × List MObj)} (h1 : EvE X env d iter st v st₁) (hl : st₁.led.length = st.led.length) (h2 : IterE X env d v xs st₁) (h3 : GsF X d env target body xs st₁ ys st')
    (hs : ∀ x, foldedSetIterable iter env x = pure x := by intro _; rfl) : GsT X d env (exec (.For target iter body [] pos) env) st ys .next st' := by
  intro A c fs K H gd lv outs ledf fz pr pg kp kg ρ s ok F hgd d1 d2 R q
  rw [exec_For, bind_wrap]
  refine Sg.wrap (wpAny_standAt ?_)
  rw [bind_wrap]
  refine Sg.wrap (h1 (A.over c fs) fz _ _ ρ s (F.over A ok) R _ _ fun fz₁ ρ₁ va s₁ R₁ g₁ r₁ => ?_)
  have e := same_ρ R.toLRel R₁.toLRel g₁ hl
  subst e
  rw [hs, pure_bind, bind_wrap]
  refine Sg.wrap (wpAny_standAt ?_)
  rw [bind_wrap]
  refine Sg.wrap (wpAny_holding (h2 (A.over c fs) fz₁ _ _ ρ₁ s₁ va _ _ (F.over A ok) R₁ r₁ fun I o h' tk hn hk hI hit => ?_))
  refine Sg.call fun p => ?_
  refine (h3.loop _ (outs := outs) (ledf := ledf) ok F hgd d1 d2 (R₁.keep (tk := tk) hk) (Apart.new R₁ hn) hI hit fun A' fz' kp' kg' s' ok' g' d1' d2' R' => ?_).mono fun e s' => OutP.mono g₁
  exact q A' fz' kp' kg' s' .next ok' (g₁.trans g') d1' d2' R' rfl

theorem GsT.ifT {t : Expr} {b o : List Stmt} {pos : Pos} {c : Bool} {ys : List (MVal × List MObj)} {f : MFlow} (h1 : TsE X env d t st c st₁) (hl : st₁.led.length = st.led.length) (hc : c = true) (h2 : GsT X d env (execs b env) st₁ ys f st') : GsT X d env (exec (.If t b o pos) env) st ys f st' := by
  subst hc
  intro A c fs K H gd lv outs ledf fz pr pg kp kg ρ s ok F hgd d1 d2 R q
  have e0 : exec (.If t b o pos) env = (standAt pos >>= fun _ => isTrue t env (eval t env) >>= fun x => if x then execs b env else execs o env) := rfl
  rw [e0, bind_wrap]
  refine Sg.wrap (wpAny_standAt ?_)
  rw [bind_wrap]
  refine Sg.wrap (h1 (A.over c fs) fz _ _ ρ s (F.over A ok) R _ _ fun fz₁ ρ₁ va s₁ R₁ g₁ r₁ => ?_)
  have e := same_ρ R.toLRel R₁.toLRel g₁ hl
  subst e
  subst r₁
  exact (h2 A c fs K H gd lv outs ledf fz₁ pr pg kp kg ρ₁ s₁ ok F hgd d1 d2 R₁ fun A' fz' kp' kg' s' fl ok' g' d1' d2' R' hfl => q A' fz' kp' kg' s' fl ok' (g₁.trans g') d1' d2' R' hfl).mono fun e s' => OutP.mono g₁
theorem GsT.ifF {t : Expr} {b o : List Stmt} {pos : Pos} {c : Bool} {ys : List (MVal × List MObj)} {f : MFlow} (h1 : TsE X env d t st c st₁) (hl : st₁.led.length = st.led.length) (hc : c = false) (h2 : GsT X d env (execs o env) st₁ ys f st') : GsT X d env (exec (.If t b o pos) env) st ys f st' := by
  subst hc
  intro A c fs K H gd lv outs ledf fz pr pg kp kg ρ s ok F hgd d1 d2 R q
  have e0 : exec (.If t b o pos) env = (standAt pos >>= fun _ => isTrue t env (eval t env) >>= fun x => if x then execs b env else execs o env) := rfl
  rw [e0, bind_wrap]
  refine Sg.wrap (wpAny_standAt ?_)
  rw [bind_wrap]
  refine Sg.wrap (h1 (A.over c fs) fz _ _ ρ s (F.over A ok) R _ _ fun fz₁ ρ₁ va s₁ R₁ g₁ r₁ => ?_)
  have e := same_ρ R.toLRel R₁.toLRel g₁ hl
  subst e
  subst r₁
  exact (h2 A c fs K H gd lv outs ledf fz₁ pr pg kp kg ρ₁ s₁ ok F hgd d1 d2 R₁ fun A' fz' kp' kg' s' fl ok' g' d1' d2' R' hfl => q A' fz' kp' kg' s' fl ok' (g₁.trans g') d1' d2' R' hfl).mono fun e s' => OutP.mono g₁
end
end Mine
end
section
open PySem PySem.W PySem.Calls PyProof.Rows
set_option linter.all false
set_option maxRecDepth 100000
namespace Mine

def nil_ {α β : Type} : α → Option β := fun _ => none
theorem orF_nil {α β : Type} {b : α → Option β} : orF nil_ b = b := by funext x; rfl
theorem Disj.nil {α β : Type} {b : α → Option β} : Disj nil_ b := fun _ => .inl rfl
def one_ (g : Nat) (gs : GenState) : Nat → Option GenState := fun i => if i = g then some gs else none

section
variable {prog : Program} {w : World} {A : Around} {Φ : PySem.End → Shared → Prop} {fs : List Frame} {s : Shared} {env : Env}
theorem Sg.func {body : List Stmt}
    (h : Sg (model prog w) A Φ (.func body env) ((execs body env).wrap (fun f => .pure (.done (.ret (match f with | .ret v => v | _ => .none)))) (fun e => (leaving env e).wrap (fun _ => .raise e) .raise id id) id id) fs s) :
    Sg (model prog w) A Φ (.func body env) ((model prog w).den (.func body env)) fs s := by
  show Sg _ A Φ _ (.point [] fun _ => ((execs body env).onRaise (leaving env)) >>= _) fs s
  refine Sg.point ?_
  rw [Sem.onRaise_eq_wrap, Sem.bind_eq_wrap', Sem.wrap_wrap]
  rw [Sem.wrap_congr (execs body env) _ _ (K' := fun f => .pure (.done (.ret (match f with | .ret v => v | _ => .none))))
    (H' := fun e => (leaving env e).wrap (fun _ => .raise e) .raise id id) (fun f => by cases f <;> rfl)
    (fun e => by rw [Sem.bind_eq_wrap, Sem.wrap_wrap]; rfl)]
  exact h
end

section
variable {X : SX} {env : Env} {d : Nat} {st st' st₁ st₂ : St} {fz kp : FH} {kg : Nat → Option GenState} {ρ : List Addr} {led led' : List MObj} {s : Shared}

theorem FrOk.func {body : List Stmt} {env : Env} : FrOk (.func body env) [] d where
  over := fun A ok => by
    have hd := ok.depth
    have hn := ok.units
    have hw : (Code.func body env).weight = 1 := rfl
    have hu : (Code.func body env).cUnits = 3 := rfl
    refine ⟨ok.h, ?_, ?_⟩
    · simp only [Around.over, List.map_nil, frameCount, List.sum_nil, hw]; omega
    · simp only [Around.over, List.map_nil, unitsOf, List.sum_nil, hu]; omega
  split := rfl
  guard := rfl

/-- a generator that has not begun -/
theorem GenIs.start {body : List Stmt} {ys : List (MVal × List MObj)} {f : MFlow} (h : GsT X d env (execs body env) st ys f st') (hf : f = .next ∨ f = .ret .none) (R₀ : Rel X env fz kp kg ρ st s) {oL : Obj} (eL : s.heap.get? env.locals = some oL) :
    GenIs X (d + 1) st'.led ρ ys st.led fz (keepOn nil_ env.locals oL) nil_ (.fresh (.func body env)) := by
  rw [GenIs.iff]
  intro A fz' kp' kg' s' ok g dk dg L
  refine ⟨rfl, Sg.func ?_⟩
  rw [← keepOn_or] at L
  have hkp : kp' env.locals = none := by
    rcases dk env.locals with h | h
    · unfold keepOn at h; simp at h
    · exact h
  have R₁ := R₀.back2 eL (kp' := orF nil_ kp') (by rw [orF_nil]; exact hkp) L g
  have := h A (.func body env) [] (fun f => .pure (.done (.ret (match f with | .ret v => v | _ => .none)))) (fun e => (leaving env e).wrap (fun _ => .raise e) .raise id id) id id [] st'.led fz' nil_ nil_ kp' kg' ρ s' ok .func rfl .nil .nil R₁ fun A' fz₂ kp₂ kg₂ s₂ fl ok₂ g₂ d1 d2 R₂ hfl => ?_
  · rw [List.append_nil] at this; exact this
  · have hL := R₂.toLRel
    rw [orF_nil, orF_nil] at hL
    have fin : Sg (mdl X) A' (OutP X (d + 1) st'.led ρ [] kp₂ kg₂ fz₂) (.func body env) (leafOf (.ok (.ret .none))) [] s₂ := Sg.done (.ok (.ret .none)) ⟨rfl, fz₂, .refl _ _, hL⟩
    rcases hf with rfl | rfl
    · have e : fl = .next := hfl
      subst e
      exact fin
    · obtain ⟨u, rfl, hu⟩ := hfl
      simp only [VRel] at hu
      subst hu
      exact fin

theorem bare_set {s : Shared} {g : Nat} {x : GenState} (h : AllBare s.gens) (hb : x.bare = true) : AllBare (s.setGen g x).gens := fun y hy => by
  obtain ⟨i, hi, e⟩ := Array.mem_iff_getElem.mp hy
  have e' : (s.setGen g x).gens[i]? = some y := by rw [Array.getElem?_eq_getElem hi, e]
  by_cases hg : i = g
  · subst hg
    have hi' : i < s.gens.size := by simpa [Shared.setGen] using hi
    have := setGen_self (x := x) (Array.getElem?_eq_getElem hi')
    rw [e'] at this
    cases this
    exact hb
  · simp only [Shared.setGen] at e'
    rw [Array.getElem?_setIfInBounds_ne (Ne.symm hg)] at e'
    obtain ⟨hlt, he⟩ := Array.getElem?_eq_some_iff.mp e'
    exact he ▸ h _ (Array.getElem_mem hlt)
theorem LRel.gpush (R : LRel X fz kp kg ρ led s) {x : GenState} (hb : x.bare = true) : LRel X fz kp (orF (one_ s.gens.size x) kg) ρ led { s with gens := s.gens.push x } ∧ kg s.gens.size = none := by
  have hk : kg s.gens.size = none := by
    cases q : kg s.gens.size with
    | none => rfl
    | some y => have := R.ikg _ _ q; simp at this
  refine ⟨{ base := ⟨R.base.os, R.base.bare.push hb⟩, tb := R.tb, hb := R.hb, ifz := R.ifz, ikp := R.ikp, ikg := fun i g e => ?_, len := R.len, ild := R.ild, nd := R.nd, off := R.off, offT := R.offT, dis := R.dis }, hk⟩
  unfold orF one_ at e
  by_cases hi : i = s.gens.size
  · subst hi; simp at e; subst e; simp
  · simp [hi] at e
    have := R.ikg i g e
    obtain ⟨hlt, he⟩ := Array.getElem?_eq_some_iff.mp this
    show (s.gens.push x)[i]? = some g
    rw [Array.getElem?_push_lt hlt, he]

/-- a generator is waked -/
theorem LRel.wake {g : Nat} {gs : GenState} (R : LRel X fz kp (orF (one_ g gs) kg) ρ led s) (hg : kg g = none) : LRel X fz kp (orF (one_ g .running) kg) ρ led (s.setGen g .running) ∧ s.gens[g]? = some gs := by
  have h1 : s.gens[g]? = some gs := R.ikg g gs (by simp [orF, one_])
  refine ⟨{ base := ⟨R.base.os, bare_set R.base.bare rfl⟩, tb := R.tb, hb := R.hb, ifz := R.ifz, ikp := R.ikp, ikg := fun i x e => ?_, len := R.len, ild := R.ild, nd := R.nd, off := R.off, offT := R.offT, dis := R.dis }, h1⟩
  · unfold orF one_ at e
    by_cases hi : i = g
    · subst hi; simp at e; subst e; exact setGen_self h1
    · simp [hi] at e
      have := R.ikg i x (by simp [orF, one_, hi, e])
      simp only [Shared.setGen]
      rw [Array.getElem?_setIfInBounds_ne (Ne.symm hi)]
      exact this
/-- .. and rests again -/
theorem LRel.rest {g : Nat} {gs gs' : GenState} (R : LRel X fz kp (orF (one_ g gs) kg) ρ led s) (hb : gs'.bare = true) : LRel X fz kp (orF (one_ g gs') kg) ρ led (s.setGen g gs') := by
  have h1 : s.gens[g]? = some gs := R.ikg g gs (by simp [orF, one_])
  refine { base := ⟨R.base.os, bare_set R.base.bare hb⟩, tb := R.tb, hb := R.hb, ifz := R.ifz, ikp := R.ikp, ikg := fun i x e => ?_, len := R.len, ild := R.ild, nd := R.nd, off := R.off, offT := R.offT, dis := R.dis }
  · unfold orF one_ at e
    by_cases hi : i = g
    · subst hi; simp at e; subst e; exact setGen_self h1
    · simp [hi] at e
      have := R.ikg i x (by simp [orF, one_, hi, e])
      simp only [Shared.setGen]
      rw [Array.getElem?_setIfInBounds_ne (Ne.symm hi)]
      exact this

/-- the next gift of a generator -/
theorem nextGen {A : Around} {a : Addr} {g : Nat} {gs : GenState} {Φ : PySem.End → Shared → Prop} {Q : Option Value → Shared → Prop} {E : Value → Shared → Prop} (hh : A.handled = none) (hl : s.heap.NoLimit) (hroom : A.depth < recursionLimit)
    (hg : s.heap.IsGen a g) (hgs : s.gens[g]? = some gs) (hgo : GoesS (mdl X) A.in1 Φ gs (.send .none) (s.setGen g .running))
    (hΦ : ∀ e s₁, Φ e s₁ → (e = .ret (.ok (.ret .none)) ∧ ∀ h', (∀ b o, s₁.heap.get? b = some o → h'.get? b = some o) → Q none { s₁.setGen g .finished with heap := h' }) ∨ (e.quiet = true ∧ ∃ v, e.result = .yielded v ∧ Q (some v) (s₁.setGen g e.genState))) :
    wpAny (mdl X) A (pyNext (.ref a)) Q E s := by
  unfold pyNext
  refine wpAny_bind (wpAny_attempt (wpAny_callSpecial?_slot (name := Str.ofString "__next__") hg.typeIs slot_gen_next
    (wpAny_call_entry slot_gen_next hg.typeIs entry_gen_next ?_ (args_gen_next _))))
  show wpAny _ _ (Builtin.Generator.genWake (.ref a) (.send .none)) _ _ s
  unfold Builtin.Generator.genWake
  refine wpAny_bind (wpAny_holding (wpAny_genNumber hg (wpAny_bind (wpAny_genState hgs ?_))))
  cases gs with
  | running => exact hgo.elim
  | finished => exact hgo.elim
  | _ =>
    refine wpAny_bind (wpAny_roomToWake hl hroom ?_)
    show wpAny _ _ (.resume g (.send .none) [] _) _ _ s
    refine wpAny_resumeS hgs hgo fun e s₁ he => ?_
    rcases hΦ e s₁ he with ⟨rfl, hq⟩ | ⟨hq, v, hv, hQ⟩
    · refine ⟨rfl, ?_⟩
      show wpAny _ _ (newExc (.type "StopIteration") [] >>= _) _ _ _
      refine wpAny_bind ?_
      simp only [newExc, newTuple]
      refine wpAny_bind (wpAny_newObj_type ?_ (by size_fits))
      refine wpAny_bind (m := firstArgMember _ _) (wpAny_of_eq (a := Value.none) (by first | rfl | (simp only [firstArgMember]; rfl)) ?_)
      refine wpAny_newObj_type ?_ (by size_fits)
      simp only [raiseNew]
      refine wpAny_bind (wpAny_bind (wpAny_handled ?_))
      rw [show A.in1.handled = none from hh]
      refine wpAny_throw ?_
      refine wpAny_bind (wpAny_isInstance (T := "StopIteration") (b := true) ⟨_, Heap.get?_push_size _ rfl, rfl⟩ isSubtype_stop ?_)
      exact wpAny_pure (hq _ fun b o hb => Heap.get?_push_of_some _ (Heap.get?_push_of_some _ hb))
    · refine ⟨hq, ?_⟩
      rw [hv]
      exact wpAny_pure ⟨v, rfl, wpAny_pure hQ⟩
end
end Mine
end
section
open PySem PySem.W PySem.Calls PyProof.Rows
set_option linter.all false
set_option maxRecDepth 100000
namespace Mine

theorem orF_comm {α β : Type} {a b c : α → Option β} (h : Disj a b) : orF a (orF b c) = orF b (orF a c) := by
  funext x
  unfold orF
  rcases h x with h | h
  · rw [h]
  · rw [h]
theorem orF_assoc {α β : Type} {a b c : α → Option β} : orF (orF a b) c = orF a (orF b c) := by
  funext x
  unfold orF
  cases a x <;> rfl
theorem Disj.symm {α β : Type} {a b : α → Option β} (h : Disj a b) : Disj b a := fun x => (h x).symm
theorem Disj.orR {α β : Type} {a b c : α → Option β} (h1 : Disj a b) (h2 : Disj a c) : Disj a (orF b c) := fun x => by
  rcases h1 x with h | h
  · exact .inl h
  · rcases h2 x with h' | h'
    · exact .inl h'
    · exact .inr (by unfold orF; rw [h]; exact h')
theorem Disj.ofR {α β : Type} {a b c : α → Option β} (h : Disj a (orF b c)) : Disj a b ∧ Disj a c := ⟨fun x => (h x).imp id fun q => (orF_none q).1, fun x => (h x).imp id fun q => (orF_none q).2⟩
theorem Disj.orL {α β : Type} {a b c : α → Option β} (h1 : Disj a c) (h2 : Disj b c) : Disj (orF a b) c := (Disj.orR h1.symm h2.symm).symm
theorem Disj.ofL {α β : Type} {a b c : α → Option β} (h : Disj (orF a b) c) : Disj a c ∧ Disj b c := let ⟨x, y⟩ := Disj.ofR h.symm; ⟨x.symm, y.symm⟩
theorem one_disj {g : Nat} {gs : GenState} {b : Nat → Option GenState} (h : b g = none) : Disj (one_ g gs) b := fun x => by
  by_cases hx : x = g
  · subst hx; exact .inr h
  · exact .inl (by simp [one_, hx])
theorem disj_one {g : Nat} {gs : GenState} {b : Nat → Option GenState} (h : Disj (one_ g gs) b) : b g = none := by
  rcases h g with h | h
  · simp [one_] at h
  · exact h

section
variable {X : SX} {env : Env} {d : Nat} {st st' st₁ st₂ : St} {fz kp : FH} {kg : Nat → Option GenState} {ρ : List Addr} {led led' : List MObj} {s : Shared}

theorem AOk.in1' {A : Around} (h : AOk A (d + 1)) : AOk A.in1 d := ⟨h.h, by have := h.depth; show A.depth + d < 1000; omega, by have := h.units; show A.units + 1 + 20 * d + 200 < 9900; omega⟩

theorem gen_is {fz : FH} {ρ : List Addr} {g : Nat} {v : Value} (R : LRel X fz kp kg ρ led s) (h : VRel fz ρ (.gen g) v) : ∃ a, v = .ref a ∧ s.heap.IsGen a g := by
  simp only [VRel] at h
  obtain ⟨a, nm, qn, rfl, h1⟩ := h
  exact ⟨a, rfl, _, nm, qn, R.ifz _ _ h1, rfl, rfl, rfl⟩

/-- some of the names are forgotten -/
theorem Rel.forget (R : Rel X env fz kp kg ρ st s) {loc' : List (Str × MVal)} (h : ∀ x v, loc'.lookup x = some v → st.loc.lookup x = some v) : Rel X env fz kp kg ρ { st with loc := loc' } s :=
  { R with iloc := let ⟨m, hn, hm⟩ := R.iloc; ⟨m, hn, fun x v e => hm x v (h x v e)⟩ }

/-- one gift of a generator that rests within this frame's keeping -/
theorem Rel.nextG (XO : SXOk X) {A : Around} {g : Nat} {gs : GenState} {a : Addr} {prI kp : FH} {pgI kg : Nat → Option GenState} {ledf : List MObj} {ys : List (MVal × List MObj)} {Q : Option Value → Shared → Prop} {E : Value → Shared → Prop} (ok : AOk A (d + 1))
    (hgen : GenIs X d ledf ρ ys st.led fz prI pgI gs) (hv : VRel fz ρ (.gen g) (.ref a)) (dp : Disj prI kp) (dg : Disj pgI kg) (hg : kg g = none) (hpg : pgI g = none)
    (R : Rel X env fz (orF prI kp) (orF (one_ g gs) (orF pgI kg)) ρ st s)
    (q0 : ys = [] → ∀ fz' s', Grow fz ρ fz' ρ → Rel X env fz' kp kg ρ { st with led := ledf } s' → Q none s')
    (q1 : ∀ v led' r, ys = (v, led') :: r → ∀ fz' u gs' prI' pgI' s', Grow fz ρ fz' ρ → VRel fz' ρ v u → GenIs X d ledf ρ r led' fz' prI' pgI' gs' → Disj prI' kp → Disj pgI' kg → pgI' g = none →
      Rel X env fz' (orF prI' kp) (orF (one_ g gs') (orF pgI' kg)) ρ { st with led := led' } s' → Q (some u) s') : wpAny (mdl X) A (pyNext (.ref a)) Q E s := by
  obtain ⟨a', e, hG⟩ := gen_is R.toLRel hv
  cases e
  obtain ⟨oL, eL, LH⟩ := R.hide
  obtain ⟨n1, n2⟩ := orF_none R.offL.2.1
  have ekp : (fun b => if b = env.locals then some oL else orF prI kp b) = orF prI (keepOn kp env.locals oL) := by
    funext b
    unfold orF keepOn
    by_cases hb : b = env.locals
    · subst hb; rw [n1] <;> simp
    · simp [hb]
  rw [ekp] at LH
  have hOne : (orF pgI kg) g = none := by unfold orF; rw [hpg]; exact hg
  obtain ⟨LW, hgs⟩ := LH.wake hOne
  have dI : Disj (one_ g .running) pgI := one_disj hpg
  rw [orF_comm dI] at LW
  have dp' : Disj prI (keepOn kp env.locals oL) := fun y => by
    by_cases hy : y = env.locals
    · subst hy; exact .inl n1
    · rcases dp y with h | h
      · exact .inl h
      · exact .inr (by unfold keepOn; rw [if_neg hy]; exact h)
  have dg' : Disj pgI (orF (one_ g .running) kg) := Disj.orR dI.symm dg
  have go := GenIs.iff.mp hgen A.in1 fz _ _ _ ok.in1' (.refl _ _) dp' dg' LW
  have backTo : ∀ {fz' : FH} {pr' : FH} {kg' : Nat → Option GenState} {led' : List MObj} {s' : Shared}, Disj pr' (keepOn kp env.locals oL) → Grow fz ρ fz' ρ → LRel X fz' (orF pr' (keepOn kp env.locals oL)) kg' ρ led' s' → Disj pr' kp ∧ Rel X env fz' (orF pr' kp) kg' ρ { st with led := led' } s' := by
    intro fz' pr' kg' led' s' dd gg LL
    have m1 : pr' env.locals = none := by
      rcases dd env.locals with h | h
      · exact h
      · unfold keepOn at h; simp at h
    have dk : Disj pr' kp := fun y => by
      by_cases hy : y = env.locals
      · subst hy; exact .inl m1
      · rcases dd y with h | h
        · exact .inl h
        · unfold keepOn at h; rw [if_neg hy] at h; exact .inr h
    have ekp' : orF pr' (keepOn kp env.locals oL) = (fun b => if b = env.locals then some oL else orF pr' kp b) := by
      funext b
      unfold orF keepOn
      by_cases hb : b = env.locals
      · subst hb; rw [m1] <;> simp
      · simp [hb]
    rw [ekp'] at LL
    exact ⟨dk, R.back2 eL (kp' := orF pr' kp) (by unfold orF; rw [m1]; exact n2) LL gg⟩
  refine nextGen (ok.h) (XO.nolimit.keeps R.hbk) ok.room hG hgs go fun e s₁ he => ?_
  unfold OutP at he
  cases ys with
  | nil =>
    obtain ⟨rfl, fz'', g₂, L₂⟩ := he
    refine .inl ⟨rfl, fun h' hk => q0 rfl fz'' _ g₂ ?_⟩
    have L₃ := (L₂.rest (gs' := .finished) rfl).keep (h' := h') (tk := s₁.toks) hk
    have L₄ : LRel X fz'' (orF nil_ (keepOn kp env.locals oL)) kg ρ ledf { s₁.setGen g .finished with heap := h' } := by
      rw [orF_nil]
      exact { L₃ with ikg := fun i x e => L₃.ikg i x (by
        unfold orF one_
        by_cases hi : i = g
        · subst hi; rw [hg] at e; cases e
        · simp [hi]; exact e) }
    have := (backTo .nil g₂ L₄).2
    rw [orF_nil] at this
    exact this
  | cons p r =>
    obtain ⟨v, led'⟩ := p
    obtain ⟨hq, u, fz'', pr', pg', hu, g₂, hv₂, d₁, d₂, L₂, G₂⟩ := he
    refine .inr ⟨hq, u, hu, ?_⟩
    obtain ⟨d₃, d₄⟩ := d₂.ofR
    have hpg' : pg' g = none := disj_one d₃.symm
    rw [orF_comm d₃] at L₂
    have L₃ := L₂.rest (gs' := e.genState) (End.bare_of_quiet hq)
    obtain ⟨dk, R₃⟩ := backTo d₁ g₂ L₃
    exact q1 v led' r rfl fz'' u _ pr' pg' _ g₂ hv₂ G₂ dk d₄ hpg' R₃
end
end Mine
end
section
open PySem PySem.W PySem.Calls PyProof.Rows
set_option linter.all false
set_option maxRecDepth 100000
namespace Mine
section
variable {X : SX} {env : Env} {d : Nat} {st st' st₁ st₂ : St}

theorem GenIs.grow {ledf : List MObj} {ρ : List Addr} {ys : List (MVal × List MObj)} {led : List MObj} {fz fz' pr : FH} {pg : Nat → Option GenState} {gs : GenState} (h : GenIs X d ledf ρ ys led fz pr pg gs) (g : Grow fz ρ fz' ρ) : GenIs X d ledf ρ ys led fz' pr pg gs := by
  rw [GenIs.iff] at h ⊢
  exact fun A fz₂ kp kg s ok g₂ => h A fz₂ kp kg s ok (g.trans g₂)

/-- «for x in generator: yield x» -/
theorem from_loop (XO : SXOk X) {target : Expr} {body : List Stmt} {x : Str} {gn : Nat} {a : Addr} {ledf : List MObj} (hpl : plainTarget target = true) (htg : ∀ (st : St) v, StoreE X env (d + 1) target v st (st.put x v)) (hbd : ∀ (st : St) v, GsT X (d + 1) env (execs body env) (st.put x v) [(v, st.led)] .next (st.put x v)) :
    ∀ (ys : List (MVal × List MObj)) (st : St) {A c fs} (k : Result → Sem Fin) {g l p outs ledF fz pr pg kp kg ρ s gs prI pgI}, st.loc.lookup x = none → AOk A (d + 1 + 1) → FrOk c fs (d + 1) → g = false → Disj pr kp → Disj pg kg →
      GenIs X d ledf ρ ys st.led fz prI pgI gs → VRel fz ρ (.gen gn) (.ref a) → Disj prI (orF pr kp) → Disj pgI (orF pg kg) → (orF pg kg) gn = none → pgI gn = none →
      Rel X env fz (orF prI (orF pr kp)) (orF (one_ gn gs) (orF pgI (orF pg kg))) ρ st s →
      (∀ A' fz' kp' kg' s', AOk A' (d + 1 + 1) → Grow fz ρ fz' ρ → Disj pr kp' → Disj pg kg' → Rel X env fz' (orF pr kp') (orF pg kg') ρ { st with led := ledf } s' → Sg (mdl X) A' (OutP X (d + 1 + 1) ledF ρ outs kp' kg' fz') c (k (.ok .next)) fs s') →
      Sg (mdl X) A (OutP X (d + 1 + 1) ledF ρ (ys ++ outs) kp kg fz) (.forLoop target (.ref a) body [] env) ((mdl X).den (.forLoop target (.ref a) body [] env)) (.ret k none g l c p [] :: fs) s := by
  intro ys
  induction ys with
  | nil =>
    intro st A c fs k g l p outs ledF fz pr pg kp kg ρ s gs prI pgI hx ok F hg d1 d2 G hv dp dg hgn hpg R q
    have F' : FrOk (.forLoop target (.ref a) body [] env) (.ret k none g l c p [] :: fs) (d + 1) := F.loop rfl rfl hg
    show Sg _ _ _ _ ((forTurn target (.ref a) body [] env).onRaise _) _ _
    rw [Sem.onRaise_eq_wrap]
    unfold forTurn
    rw [bind_wrap]
    refine Sg.wrap (wpAny_standAt ?_)
    rw [bind_wrap]
    refine Sg.wrap (wpAny_onRaise (R.nextG XO (F'.over A ok) G hv dp dg hgn hpg (fun _ fz' s' g' R' => ?_) fun v led' r e => nomatch e))
    refine Sg.again rfl ?_
    show Sg _ _ _ _ (do return Fin.done (← (execs [] env).onRaise _)) _ _
    refine Sg.leaf (.ok .next) ?_
    exact (q A fz' kp kg _ ok g' d1 d2 R').mono fun e s' => OutP.mono g'
  | cons y r ih =>
    obtain ⟨v, led'⟩ := y
    intro st A c fs k g l p outs ledF fz pr pg kp kg ρ s gs prI pgI hx ok F hg d1 d2 G hv dp dg hgn hpg R q
    have F' : FrOk (.forLoop target (.ref a) body [] env) (.ret k none g l c p [] :: fs) (d + 1) := F.loop rfl rfl hg
    show Sg _ _ _ _ ((forTurn target (.ref a) body [] env).onRaise _) _ _
    rw [Sem.onRaise_eq_wrap]
    unfold forTurn
    rw [bind_wrap]
    refine Sg.wrap (wpAny_standAt ?_)
    rw [bind_wrap]
    refine Sg.wrap (wpAny_onRaise (R.nextG XO (F'.over A ok) G hv dp dg hgn hpg (fun e => nomatch e) fun v₁ led₁ r₁ e fz₁ u gs₁ pr₁ pg₁ s₁ g₁ hu G₁ dp₁ dg₁ hpg₁ R₁ => ?_))
    cases e
    dsimp only
    rw [bind_wrap, owned_plain hpl]
    refine Sg.wrap (wpAny_pure ?_)
    rw [bind_wrap]
    obtain ⟨n1, n2⟩ := orF_none hgn
    obtain ⟨p1, p2⟩ := dp₁.ofR
    obtain ⟨m1, m2⟩ := dg₁.ofR
    refine Sg.wrap (htg _ v (A.over _ _) fz₁ _ _ ρ _ u (F'.over A ok) R₁ hu _ _ fun fz₂ ρ₂ _ s₂ R₂ g₂ _ => ?_)
    have e₂ := same_ρ R₁.toLRel R₂.toLRel g₂ rfl
    subst e₂
    rw [bind_wrap]
    rw [← orF_assoc, ← orF_assoc, ← orF_assoc, orF_assoc (a := one_ gn gs₁)] at R₂
    refine Sg.mono (hbd { st with led := led' } v A _ _ _ _ id id (r ++ outs) ledF fz₂ (orF pr₁ pr) (orF (one_ gn gs₁) (orF pg₁ pg)) kp kg ρ₂ s₂ ok F' rfl (p2.orL d1) (Disj.orL (one_disj n2) (m2.orL d2)) R₂ fun A' fz₃ kp₃ kg₃ s₃ fl ok₃ g₃ dk₃ dg₃ R₃ hfl => ?_) fun e s' => OutP.mono (g₁.trans g₂)
    obtain ⟨q1, q2⟩ := dk₃.ofL
    obtain ⟨q3, q4⟩ := dg₃.ofL
    obtain ⟨q5, q6⟩ := q4.ofL
    have hkg₃ : kg₃ gn = none := disj_one q3
    have R₄ := R₃.forget (loc' := st.loc) fun y w e => by
      show (setA x v st.loc).lookup y = some w
      rw [lookup_setA]
      by_cases hy : y = x
      · subst hy; rw [hx] at e; cases e
      · rw [if_neg hy]; exact e
    rw [orF_assoc, orF_assoc, orF_assoc] at R₄
    have gg := (g₁.trans g₂).trans g₃
    have fin := ih { st with led := led' } k (l := l) (p := p) (outs := outs) (ledF := ledF) hx ok₃ F hg q2 q6 (G₁.grow (g₂.trans g₃)) (VRel.grow gg _ _ hv) (Disj.orR p1 q1) (Disj.orR m1 q5) (by unfold orF; rw [n1]; exact hkg₃) hpg₁ R₄ fun A' fz' kp' kg' s' ok' g' d1' d2' R' => q A' fz' kp' kg' s' ok' (gg.trans g') d1' d2' R'
    have e : fl = .next := hfl
    subst e
    exact Sg.again rfl fin
end
end Mine
end
section
open PySem PySem.W PySem.Calls PyProof.Rows
set_option linter.all false
set_option maxRecDepth 100000
namespace Mine
section
variable {X : SX} {env : Env} {d : Nat} {st st' st₁ st₂ : St} {led ledf : List MObj}

/-- a call of a generator function that a def made -/
theorem callG (XO : SXOk X) {F : CloF} {cs : List (Str × Nat)} {args : List MVal} {kw : List (Str × MVal)} {bm : List (Str × MVal)} {ys : List (MVal × List MObj)} {fl : MFlow} (hgen : F.scope.isGenerator = true) (hco : F.scope.isCoroutine = false) (hkind : F.scope.kind = .function) (hcell : (F.scope.names.all fun x => x.2 != .cell) = true)
    (hbind : BindsC F args kw bm) (hloc : (bm.all fun x => decide (F.scope.names.lookup x.1 = some .local)) = true) (hnd : (bm.map (·.1)).Nodup)
    (body : ∀ L a c' clos, ∃ st', GsT X d (envX F.qual F.scope L a (.ref c') clos) (execs F.body (envX F.qual F.scope L a (.ref c') clos)) ⟨bm, cs, led⟩ ys fl st' ∧ st'.led = ledf) (hfl : fl = .next ∨ fl = .ret .none) :
    ∀ A fz kp kg ρ s fv vs kvs (Rz : Result → Shared → Prop), AOk A (d + 1) → LRel X fz kp kg ρ led s → VRel fz ρ (.clo F cs) fv → VRels fz ρ args vs → KRels fz ρ kw kvs →
      (∀ fz' g gs a prI s', Grow fz ρ fz' ρ → GenIs X (d + 1) ledf ρ ys led fz' prI nil_ gs → VRel fz' ρ (.gen g) (.ref a) → Disj prI kp → kg g = none → LRel X fz' (orF prI kp) (orF (one_ g gs) kg) ρ led s' → Rz (.ok (.ret (.ref a))) s') → codeAny (mdl X) A (.call fv ⟨vs, kvs⟩) Rz s := by
  intro A fz kp kg ρ s fv vs kvs Rz ok R hf hv hk q
  simp only [VRel] at hf
  obtain ⟨a, clos, doc, pm, c', ctv, oc, ws, t, rfl, h1, h2, h3, h4, h5⟩ := hf
  have ho := R.ifz _ _ h1
  obtain ⟨binds, hb1, hb2, hb3⟩ := hbind fz ρ vs kvs clos doc pm (.ref c') ctv hv hk
  have hcell' : ∀ x ∈ F.scope.names, x.2 ≠ .cell := fun x hx e => by
    have := List.all_eq_true.mp hcell x hx
    rw [e] at this
    exact absurd this (by decide)
  have hloc' : ∀ x ∈ binds, F.scope.names.lookup x.1 = some .local := fun x hx => by
    have h1 : x.1 ∈ bm.map (·.1) := hb2 ▸ List.mem_map_of_mem hx
    obtain ⟨y, hy, e⟩ := List.mem_map.mp h1
    have := of_decide_eq_true (List.all_eq_true.mp hloc y hy)
    rw [← e]; exact this
  have hnb : (binds.map (·.1)).Nodup := hb2 ▸ hnd
  refine codeAny_call_generator (fd := fnX F.name F.qual F.params F.body F.scope clos .none .none doc pm none (.ref c') ctv) (body := F.body) ok.room ho rfl hco hgen rfl ⟨c', oc, ws, t, rfl, R.ifz _ _ h3, h4, h5⟩ ?_
  rw [hb1]
  refine wpAny_pure (wpAny_newFunctionEnv hcell' hloc' (fun h₀ hns hsb => ?_) hkind)
  have hkeep : ∀ b o, s.heap.get? b = some o → h₀.get? b = some o := fun b o e => hsb.extBut b o (Nat.ne_of_lt (Heap.lt_size e)) (Heap.get?_push_of_some _ e)
  have RF := R.frame (env := envX F.qual F.scope s.heap.objs.size a (.ref c') clos) (tk := s.toks + binds.length) (bm := bm) (cs := cs) rfl hkeep hns (fun x v e => by
    obtain ⟨u, h1, h2⟩ := binds_rel hb2 hb3 (lookup_mem e)
    refine ⟨u, mem_lookup ?_ (List.mem_reverse.mpr h1), h2⟩
    rw [List.map_reverse]; exact (List.reverse_perm _).nodup_iff.mpr hnb) (fun x i e => CRel.look h2 e)
  obtain ⟨oL, eL, LH⟩ := RF.hide
  have ekp : (fun b => if b = (envX F.qual F.scope s.heap.objs.size a (.ref c') clos).locals then some oL else kp b) = orF (keepOn nil_ s.heap.objs.size oL) kp := by
    have := keepOn_or (pr := nil_) (kp := kp) (L := s.heap.objs.size) (o := oL)
    rw [orF_nil] at this
    exact this
  rw [ekp] at LH
  have hn : ({ s with heap := h₀, toks := s.toks + binds.length } : Shared).heap.get? h₀.objs.size = none := none_of_size
  obtain ⟨st', hb, hled⟩ := body s.heap.objs.size a c' clos
  have G₀ := GenIs.start hb hfl RF eL
  rw [hled] at G₀
  refine ⟨XO.nolimit.keeps fun b o e => hkeep b o (R.hbk b o e), ?_⟩
  have LN := LH.new (h' := h₀.push { cls := .type "generator", data := .fields #[.int s.gens.size 0, .str F.name (s.toks + binds.length), .str F.qual (s.toks + binds.length + 1)] }) (tk := s.toks + binds.length + 1 + 1) hn (fun _ _ e => Heap.get?_push_of_some _ e) (Heap.get?_push_size _ rfl)
  have g := grow_upd (ρ := ρ) (o := { cls := .type "generator", data := .fields #[.int s.gens.size 0, .str F.name (s.toks + binds.length), .str F.qual (s.toks + binds.length + 1)] }) (LH.fz_none hn)
  obtain ⟨LG, hkg⟩ := LN.gpush (x := .fresh (.func F.body (envX F.qual F.scope s.heap.objs.size a (.ref c') clos))) rfl
  refine q _ _ _ _ _ _ g (G₀.grow g) ?_ (fun y => ?_) hkg LG
  · simp only [VRel]
    exact ⟨_, _, _, rfl, upd_self ..⟩
  · by_cases hy : y = s.heap.objs.size
    · subst hy; exact .inr (R.kp_none none_of_size)
    · exact .inl (by unfold keepOn; rw [if_neg hy]; rfl)

/-- an expression that gives a generator that has not begun -/
def MkG (X : SX) (d dI : Nat) (env : Env) (m : Sem Value) (st : St) (ys : List (MVal × List MObj)) (ledf : List MObj) : Prop :=
  ∀ A fz kp kg ρ s (Q : Value → Shared → Prop) (E : Value → Shared → Prop), AOk A d → Rel X env fz kp kg ρ st s →
    (∀ fz' g gs a prI s', Grow fz ρ fz' ρ → GenIs X dI ledf ρ ys st.led fz' prI nil_ gs → VRel fz' ρ (.gen g) (.ref a) → Disj prI kp → kg g = none → Rel X env fz' (orF prI kp) (orF (one_ g gs) kg) ρ st s' → Q (.ref a) s') → wpAny (mdl X) A m Q E s
/-- a statement that binds one -/
def MkS (X : SX) (d dI : Nat) (env : Env) (m : Sem Flow) (x : Str) (st : St) (ys : List (MVal × List MObj)) (ledf : List MObj) : Prop :=
  ∀ A fz kp kg ρ s (Q : Flow → Shared → Prop) (E : Value → Shared → Prop), AOk A d → Rel X env fz kp kg ρ st s →
    (∀ fz' g gs prI s', Grow fz ρ fz' ρ → GenIs X dI ledf ρ ys st.led fz' prI nil_ gs → Disj prI kp → kg g = none → Rel X env fz' (orF prI kp) (orF (one_ g gs) kg) ρ (st.put x (.gen g)) s' → Q .next s') → wpAny (mdl X) A m Q E s

/-- the call of such a function by its name -/
theorem MkG.call {func : Expr} {args : List Expr} {pos : Pos} {f : MVal} {vs : List MVal} {dI : Nat} {ys : List (MVal × List MObj)} (hf : EvE X env (d + 1) func st f st) (hk : KpE X f) (ha : EvL X env (d + 1) pos args st vs st)
    (hc : ∀ A fz kp kg ρ s fv us (Rz : Result → Shared → Prop), AOk A (d + 1) → LRel X fz kp kg ρ st.led s → VRel fz ρ f fv → VRels fz ρ vs us →
      (∀ fz' g gs a prI s', Grow fz ρ fz' ρ → GenIs X dI ledf ρ ys st.led fz' prI nil_ gs → VRel fz' ρ (.gen g) (.ref a) → Disj prI kp → kg g = none → LRel X fz' (orF prI kp) (orF (one_ g gs) kg) ρ st.led s' → Rz (.ok (.ret (.ref a))) s') → codeAny (mdl X) A (.call fv ⟨us, []⟩) Rz s)
    (he : eval (.Call func args [] pos) env = (do callWith pos (← eval func env) [] (backTo pos (starEach args env)) (backToKw pos (keywordEach [] env))) := by rfl)
    (hst : (backTo pos (starEach args env)).any (·.1) = false := by rfl) : MkG X (d + 1) dI env (eval (.Call func args [] pos) env) st ys ledf := by
  intro A fz kp kg ρ s Q E ok R q
  rw [he]
  refine wpAny_bind (hf A fz kp kg ρ s ok R _ _ fun fz₁ ρ₁ fv s₁ R₁ g₁ r₁ => ?_)
  have e₁ := same_ρ R.toLRel R₁.toLRel g₁ rfl
  subst e₁
  refine callWith_of (P := fun h => ∃ k, (k = Keeper.frame ∨ k = Keeper.machine ∨ k = Keeper.boundFrame) ∧ Looks (mdl X) h (keeperOf fv) k) (by rw [hst]; rfl) (fun _ h => h) ?_
  refine evalArgs_all hst rfl ?_
  refine ha A fz₁ kp kg ρ₁ s₁ ok R₁ _ _ fun fz₂ ρ₂ us s₂ R₂ g₂ r₂ => ?_
  have e₂ := same_ρ R₁.toLRel R₂.toLRel g₂ rfl
  subst e₂
  refine wpAny_evalAll_nil ?_
  have hf₂ := VRel.grow g₂ _ _ r₁
  refine ⟨hk _ _ _ _ _ _ _ R₂.toLRel hf₂, ?_⟩
  obtain ⟨oL, eL, LH⟩ := R₂.hide
  refine wpAny_call (hc A fz₂ _ kg ρ₂ s₂ fv us _ ok LH hf₂ r₂ fun fz' g gs a prI s' g₃ G hv dp hg L => ?_)
  have n1 : prI env.locals = none := by
    rcases dp env.locals with h | h
    · exact h
    · simp at h
  have dk : Disj prI kp := fun y => by
    by_cases hy : y = env.locals
    · subst hy; exact .inl n1
    · rcases dp y with h | h
      · exact .inl h
      · dsimp only at h; rw [if_neg hy] at h; exact .inr h
  have ekp : orF prI (fun b => if b = env.locals then some oL else kp b) = (fun b => if b = env.locals then some oL else orF prI kp b) := by
    funext b
    unfold orF
    by_cases hb : b = env.locals
    · subst hb; rw [n1] <;> simp
    · simp [hb]
  rw [ekp] at L
  exact q fz' g gs a prI s' ((g₁.trans g₂).trans g₃) G hv dk hg (R₂.back2 eL (kp' := orF prI kp) (by unfold orF; rw [n1]; exact R₂.offL.2.1) L g₃)

theorem MkS.assign {x : Str} {p pos : Pos} {value : Expr} {dI : Nat} {ys : List (MVal × List MObj)} (O : EnvOk env) (h : MkG X d dI env (eval value env) st ys ledf) (hl : env.kindOf x = some .local)
    (hs : swapsWithSole [.Name x p] value pos.line env = pure false := by rfl) (hw : swappedStores [.Name x p] value env = pure none := by rfl) : MkS X d dI env (exec (.Assign [.Name x p] value pos) env) x st ys ledf := by
  intro A fz kp kg ρ s Q E ok R q
  refine wpAny_Assign_stores (h A fz kp kg ρ s _ _ ok R fun fz' g gs a prI s' g₁ G hv dp hg R' => ?_) hs hw
  have he : (assignEach [Expr.Name x p] env).map (·.2) = [PySem.assign (.Name x p) env] := rfl
  rw [he]
  refine wpAny_assign_Name (BindE.loc (d := d) O hl A fz' _ _ ρ s' _ ok R' hv _ _ fun fz₂ ρ₂ _ s₂ R₂ g₂ _ => ?_)
  have e₂ := same_ρ R'.toLRel R₂.toLRel g₂ rfl
  subst e₂
  exact q fz₂ g gs prI s₂ (g₁.trans g₂) (G.grow g₂) dp hg R₂
theorem MkS.ifT {t : Expr} {b o : List Stmt} {pos : Pos} {c : Bool} {x : Str} {dI : Nat} {ys : List (MVal × List MObj)} (h1 : TsE X env d t st c st) (hc : c = true) (h2 : MkS X d dI env (execs b env) x st ys ledf) : MkS X d dI env (exec (.If t b o pos) env) x st ys ledf := by
  subst hc
  intro A fz kp kg ρ s Q E ok R q
  refine wpAny_If (h1 A fz kp kg ρ s ok R _ _ fun fz₁ ρ₁ va s₁ R₁ g₁ r₁ => ?_)
  have e₁ := same_ρ R.toLRel R₁.toLRel g₁ rfl
  subst e₁
  subst r₁
  exact h2 A fz₁ kp kg ρ₁ s₁ Q E ok R₁ fun fz' g gs prI s' g' => q fz' g gs prI s' (g₁.trans g')
theorem MkS.ifF {t : Expr} {b o : List Stmt} {pos : Pos} {c : Bool} {x : Str} {dI : Nat} {ys : List (MVal × List MObj)} (h1 : TsE X env d t st c st) (hc : c = false) (h2 : MkS X d dI env (execs o env) x st ys ledf) : MkS X d dI env (exec (.If t b o pos) env) x st ys ledf := by
  subst hc
  intro A fz kp kg ρ s Q E ok R q
  refine wpAny_If (h1 A fz kp kg ρ s ok R _ _ fun fz₁ ρ₁ va s₁ R₁ g₁ r₁ => ?_)
  have e₁ := same_ρ R.toLRel R₁.toLRel g₁ rfl
  subst e₁
  subst r₁
  exact h2 A fz₁ kp kg ρ₁ s₁ Q E ok R₁ fun fz' g gs prI s' g' => q fz' g gs prI s' (g₁.trans g')
theorem MkS.one {t : Stmt} {x : Str} {dI : Nat} {ys : List (MVal × List MObj)} (h : MkS X d dI env (exec t env) x st ys ledf) : MkS X d dI env (execs [t] env) x st ys ledf := by
  intro A fz kp kg ρ s Q E ok R q
  refine wpAny_execs_cons (h A fz kp kg ρ s _ _ ok R fun fz' g gs prI s' g' G dp hg R' => ?_)
  exact wpAny_execs_nil (q fz' g gs prI s' g' G dp hg R')
end
end Mine
end
section
open PySem PySem.W PySem.Calls PyProof.Rows
set_option linter.all false
set_option maxRecDepth 100000
namespace Mine
section
variable {X : SX} {env : Env} {d : Nat} {st st' st₁ st₂ : St} {led ledf : List MObj}

/-- a generator is made, and what it gives is given on -/
theorem GsT.genFor (XO : SXOk X) (O : EnvOk env) {t₁ : Stmt} {target iter : Expr} {body r : List Stmt} {pos p : Pos} {x y : Str} {ys zs : List (MVal × List MObj)} {f : MFlow} (h1 : MkS X (d + 1) d env (exec t₁ env) y st ys ledf) (hpl : plainTarget target = true)
    (htg : ∀ (st : St) v, StoreE X env (d + 1) target v st (st.put x v)) (hbd : ∀ (st : St) v, GsT X (d + 1) env (execs body env) (st.put x v) [(v, st.led)] .next (st.put x v)) (hi : ∀ (st : St) (v : MVal), EvE X env (d + 1) iter (st.put y v) v (st.put y v))
    (hx : st.loc.lookup x = none) (hy : st.loc.lookup y = none) (hxy : x ≠ y) (hlen : ledf.length = st.led.length) (h3 : GsT X (d + 1) env (execs r env) (st.wled ledf) zs f st') (hs : ∀ x, foldedSetIterable iter env x = pure x := by intro _; rfl) :
    GsT X (d + 1) env (execs (t₁ :: .For target iter body [] pos :: r) env) st (ys ++ zs) f st' := by
  intro A c fs K H gd lv outs ledF fz pr pg kp kg ρ s ok F hgd d1 d2 R q
  refine Sg.execs_cons (Sg.wrap (h1 (A.over c fs) fz _ _ ρ s _ _ (F.over A ok) R fun fz₁ g gs prI s₁ g₁ G dp hg R₁ => ?_))
  refine Sg.execs_cons ?_
  rw [exec_For, bind_wrap]
  refine Sg.wrap (wpAny_standAt ?_)
  rw [bind_wrap]
  refine Sg.wrap (hi st (.gen g) (A.over c fs) fz₁ _ _ ρ s₁ (F.over A ok) R₁ _ _ fun fz₂ ρ₂ va s₂ R₂ g₂ r₂ => ?_)
  have e₂ := same_ρ R₁.toLRel R₂.toLRel g₂ rfl
  subst e₂
  rw [hs, pure_bind, bind_wrap]
  refine Sg.wrap (wpAny_standAt ?_)
  obtain ⟨a, rfl, hG⟩ := gen_is R₂.toLRel r₂
  rw [bind_wrap]
  refine Sg.wrap (wpAny_holding (wpAny_pyIter_gen hG ?_))
  refine Sg.call fun p => ?_
  have R₃ := R₂.forget (loc' := st.loc) fun z w e => by
    show (setA y (.gen g) st.loc).lookup z = some w
    rw [lookup_setA]
    by_cases hz : z = y
    · subst hz; rw [hy] at e; cases e
    · rw [if_neg hz]; exact e
  obtain ⟨n1, n2⟩ := orF_none hg
  have e0 : orF (one_ g gs) (orF pg kg) = orF (one_ g gs) (orF nil_ (orF pg kg)) := by rw [orF_nil]
  rw [e0] at R₃
  rw [List.append_assoc]
  refine (from_loop XO hpl htg hbd ys st _ (outs := zs ++ outs) (ledF := ledF) hx ok F hgd d1 d2 (G.grow g₂) r₂ dp .nil hg rfl R₃ fun A' fz' kp' kg' s' ok' g' d1' d2' R' => ?_).mono fun e s' => OutP.mono (g₁.trans g₂)
  exact h3 A' c fs K H gd lv outs ledF fz' pr pg kp' kg' ρ₂ s' ok' F hgd d1' d2' R' fun A'' fz'' kp'' kg'' s'' fl ok'' g'' d1'' d2'' R'' hfl => q A'' fz'' kp'' kg'' s'' fl ok'' (((g₁.trans g₂).trans g').trans g'') d1'' d2'' R'' hfl
end
end Mine
end
section
open PySem PySem.W PySem.Calls PyProof.Rows
set_option linter.all false
set_option maxRecDepth 100000
namespace Mine
section
variable {X : SX} {env : Env} {d : Nat} {st st' st₁ : St}
theorem isi_lstr {ws : List MVal} : AppE X env d (.obj (.builtin "isinstance")) [.lst ws, .obj (.type "str")] [] st (.bool false) st := AppE.isi (T := "list") rfl (by kernel_rfl) (fun _ => by decide) (by rfl)
theorem isi_lbool {ws : List MVal} : AppE X env d (.obj (.builtin "isinstance")) [.lst ws, .obj (.type "bool")] [] st (.bool false) st := AppE.isi (T := "list") rfl (by kernel_rfl) (fun _ => by decide) (by rfl)
theorem isi_lint {ws : List MVal} : AppE X env d (.obj (.builtin "isinstance")) [.lst ws, .obj (.type "int")] [] st (.bool false) st := AppE.isi (T := "list") rfl (by kernel_rfl) (fun _ => by decide) (by rfl)
theorem isi_llist {ws : List MVal} : AppE X env d (.obj (.builtin "isinstance")) [.lst ws, .obj (.type "list")] [] st (.bool true) st := AppE.isi (T := "list") rfl (by kernel_rfl) (fun h => by cases h) (by rfl)

theorem GsT.step {t : Stmt} {r : List Stmt} {zs : List (MVal × List MObj)} {f : MFlow} (h1 : ExS X env d t st .next st₁) (hl : st₁.led.length = st.led.length) (h2 : GsT X d env (execs r env) st₁ zs f st') : GsT X d env (execs (t :: r) env) st zs f st' := .cons (ys := []) (GsT.plain h1 hl) h2
theorem GsT.last {t : Stmt} {ys : List (MVal × List MObj)} (h1 : GsT X d env (exec t env) st ys .next st') : GsT X d env (execs [t] env) st ys .next st' := by
  have := GsT.cons h1 (GsT.nil (X := X) (d := d) (env := env) (st := st'))
  rw [List.append_nil] at this; exact this
theorem GsT.castY {m : Sem Flow} {ys zs : List (MVal × List MObj)} {f : MFlow} (h : GsT X d env m st ys f st') (e : ys = zs) : GsT X d env m st zs f st' := e ▸ h
end
end Mine
end
section
open PySem PySem.W PySem.Calls PyProof.Rows
set_option linter.all false
set_option maxRecDepth 100000
namespace Mine
/-- one sign of a text -/
theorem sliceS_one {x : Str} {j c : Nat} (h : x.cps[j]? = some c) : sliceS x (some (j : Int)) (some ((j : Int) + 1)) = ⟨#[c]⟩ := by
  obtain ⟨hj, hc⟩ := Array.getElem?_eq_some_iff.mp h
  have hl : j < x.length := hj
  have e : Builtin.Str.strSliceIndices (some (j : Int)) (some ((j : Int) + 1)) 1 x.length = [j] := by
    have := StrLaws.strSliceIndices_plain (a := j) (b := j + 1) (len := x.length) (by omega) (by omega)
    rw [show (((j + 1 : Nat) : Int)) = (j : Int) + 1 by omega] at this
    rw [this]
    have : j + 1 - j = 1 := by omega
    simp [this]
  unfold sliceS
  rw [e]
  split
  · rename_i h1
    have h1' : x.cps.size = 1 := by
      have : (1 : Nat) = x.length := by simpa using h1
      exact this.symm
    have hj0 : j = 0 := by omega
    subst hj0
    obtain ⟨a⟩ := x
    dsimp only at h1' hc ⊢
    congr 1
    apply Array.ext
    · simpa using h1'
    · intro i h1 h2
      have : i = 0 := by simp at h2; omega
      subst this; simpa using hc
  · simp [h]
section
variable {X : SX} {env : Env} {d : Nat} {st st' st₁ st₂ : St}
theorem AppE.ord {c : Nat} : AppE X env d (.obj (.builtin "ord")) [.str ⟨#[c]⟩] [] st (.int c) st := fun A fz kp kg ρ s fv us kvs ok R hf hv hk Q E q => by
  have ek := kvs_nil hk; subst ek
  simp only [VRel] at hf; subst hf
  simp only [VRels, VRel] at hv
  obtain ⟨v1, r1, rfl, ⟨t1, rfl⟩, rfl⟩ := hv
  exact P.ord_of_char (q _ _ _ _ (R.tk _) (.refl _ _) (by simp [VRel]))
theorem CmpE.inS {y x : Str} : CmpE X env d .In (.str y) (.str x) st (Txt.contains x y) st := fun A fz kp kg ρ s va vb ok R ha hb Q E q => by
  simp only [VRel] at ha hb; obtain ⟨t, rfl⟩ := ha; obtain ⟨u, rfl⟩ := hb
  exact P.in_str (q _ _ _ _ R (.refl _ _) rfl)
theorem MtE.clear {i : Nat} {ds : List (Str × MVal)} (hi : st.led[i]? = some (.dct ds)) : MtE X env d (.ref i) "clear" st (.obj (.builtin "dict.clear")) [.ref i] st := fun A fz kp kg ρ s va pl ok R h Q E q => by
  have h' := h
  simp only [VRel] at h
  obtain ⟨a, h1, rfl⟩ := h
  obtain ⟨o, h2, es, ep, rfl, h3⟩ := R.ild i a _ h1 hi
  exact getMethod_builtin ⟨_, h2, rfl⟩ F.plainAttrs_dict F.slot_dict_clear F.type_dict_clear (fun b e => by cases e; exact ⟨_, h2, rfl⟩) (q _ _ _ _ R (.refl _ _) ⟨by simp [VRel], by simp only [VRels]; exact ⟨_, _, rfl, h', rfl⟩⟩)
/-- an empty dict of the ledger -/
theorem EvE.dictE {pos : Pos} : EvE X env d (.Dict [] [] pos) st (.ref st.led.length) (st.wled (st.led ++ [.dct []])) := fun A fz kp kg ρ s ok R Q E q => by
  rw [arm_eval_Dict]
  refine wpAny_bind (wpAny_standAt ?_)
  have hn : s.heap.get? s.heap.objs.size = none := none_of_size
  have hd : dictDisplay ([] : List (Option (Sem Value) × Sem Value)) = newDict := by rfl
  show wpAny _ _ (dictDisplay ([] : List (Option (Sem Value) × Sem Value))) _ _ _
  rw [hd]
  unfold newDict
  refine wpAny_newObj_type ?_ (by size_fits)
  have R' := R.add (a := s.heap.objs.size) (m := .dct []) (o := { cls := .type "dict", data := .dict #[] 0 }) (h' := s.heap.push { cls := .type "dict", data := .dict #[] 0 }) (tk := s.toks) hn (fun _ _ e => Heap.get?_push_of_some _ e) (Heap.get?_push_size _ rfl) ⟨#[], 0, rfl, rfl⟩
  refine q fz (ρ ++ [s.heap.objs.size]) _ _ R' ⟨fun _ _ e => e, _, rfl⟩ ?_
  simp only [VRel]
  refine ⟨_, ?_, rfl⟩
  have := R.len
  rw [List.getElem?_append_right (by omega), this]; simp
theorem AppE.clear {i : Nat} {ds : List (Str × MVal)} (hi : st.led[i]? = some (.dct ds)) (hz : ds.length ≤ 10000000) : AppE X env d (.obj (.builtin "dict.clear")) [.ref i] [] st .none (st.wled (st.led.set i (.dct []))) := fun A fz kp kg ρ s fv us kvs ok R hf hv hk Q E q => by
  have ek := kvs_nil hk; subst ek
  simp only [VRel] at hf; subst hf
  simp only [VRels, VRel] at hv
  obtain ⟨y, r, rfl, ⟨a, h1, rfl⟩, rfl⟩ := hv
  obtain ⟨o, h2, es, ep, rfl, h3⟩ := R.ild i a _ h1 hi
  have hT : s.TypeIs (.ref a) "dict" := ⟨_, h2, rfl⟩
  have hes : es.size = ds.length := by have := h3.len; simpa using this
  refine wpAny_call (codeAny_call_builtin F.slot_dict_clear.plain F.entry_dict_clear (F.slot_dict_clear.check _ _ _ _ _ _ _ _ hT (F.args_dict_clear_1 _) ?_))
  unfold Builtin.«dict.clear»
  refine wpAny_bind ?_
  unfold Builtin.Dict.noArgs
  refine wpAny_bind (wpAny_notOrdered_dict hT ?_)
  show wpAny _ _ (pure a) _ _ s
  refine wpAny_pure ?_
  refine wpAny_bind (wpAny_dictEntries h2 rfl ?_)
  refine wpAny_bind ?_
  unfold bearsInstanceDictMark
  refine wpAny_bind (wpAny_load h2 (wpAny_pure ?_))
  refine wpAny_bind (wpAny_updateDictKeys (hz := by rw [hes, sizeLine_eq]; omega) h2 rfl ?_)
  have hget := Heap.get?_update_self (Obj.mapDictKeys fun _ => (#[] : Array DictEntry)) h2 rfl
  refine wpAny_bind (m := letGo _) (wpAny_letGo (wpAny_pure ?_))
  exact q _ _ _ _ (R.updL (tk := s.toks) h1 Heap.upd_same hget ⟨#[], ep + 1, rfl, rfl⟩) (.refl _ _) (by simp [VRel])
/-- a method of the class, bound -/
theorem GtE.bound (XO : SXOk X) {C f : Addr} {i : Nat} {ds : List (Str × MVal)} {name : Str} (hi : st.led[i]? = some (.dct ds)) (hl : ds.lookup name = none) (hg : plainGet X.K C name = true) (hh : hasDictIn X.K C = true) (ha : findIn X.K (.ref C) name = some (some (.ref f)))
    (hf : isFn X.K (.ref f) = true) (hgf : specialIn X.K (.ref f) "__get__" = some (some (.builtin "function.__get__"))) (ht : takesIn X.K (.ref f) = some false) (hc : copiedNames.contains name = false) :
    GtE X env d (.insr C i) name st (.fo "method" [.obj (.ref f), .insr C i]) st :=
  fun A fz kp kg ρ s va expr ok R h Q E q => by
    obtain ⟨a, dx, es, ep, rfl, h1, I, h2, h3⟩ := ins_at R.toLRel hi h
    have hn : s.heap.get? s.heap.objs.size = none := none_of_size
    have R' := R.new (h' := s.heap.push { cls := .type "method", data := .fields #[.ref f, .ref a] }) (tk := s.toks + 1) hn (fun _ _ e => Heap.get?_push_of_some _ e) (Heap.get?_push_size _ rfl)
    have g' : Grow fz ρ _ ρ := grow_upd (o := { cls := .type "method", data := .fields #[.ref f, .ref a] }) (R.fz_none hn)
    refine get_bind (R.kin XO) I (plainGet_of hg).1 (findObj_fn hh ha hgf ht hc (by show lookIn name (dictOf es ep) = _; rw [lookIn_dict, h3.miss hl])) (plainGet_of hg).2
      (wpAny_call (fn_get (s := { s with toks := s.toks + 1 }) (R.kin XO) (beq_iff_eq.mp hf) (handed_on rfl (q _ _ _ _ R' g' ?_))))
    simp only [VRel]
    refine ⟨_, _, rfl, upd_self .., ?_⟩
    have hs := VRel.grow g' _ _ h
    simp only [VRel] at hs
    simp only [VRels, VRel]
    exact ⟨_, _, rfl, rfl, _, _, rfl, hs, rfl⟩
end
end Mine
end
section
open PySem PySem.W PySem.Calls PyProof.Rows
set_option linter.all false
set_option maxRecDepth 100000
set_option profiler true
set_option profiler.threshold 1000
namespace Mine
theorem plainAttrs_pat : PlainAttrs "re.Pattern" :=
  ⟨⟨"object.__getattribute__", by rw [typeLookup_type, builtinLookup_eq_fast]; kernel_rfl, by decide +kernel⟩, by rw [typeLookup_type, builtinLookup_eq_fast]; kernel_rfl⟩
theorem plainAttrs_mat : PlainAttrs "re.Match" :=
  ⟨⟨"object.__getattribute__", by rw [typeLookup_type, builtinLookup_eq_fast]; kernel_rfl, by decide +kernel⟩, by rw [typeLookup_type, builtinLookup_eq_fast]; kernel_rfl⟩
theorem slot_pat_match : Slot "re.Pattern" "match" "re.Pattern.match" :=
  .of (owner := "re.Pattern") (n := "match") (by rw [typeLookup_type, builtinLookup_eq_fast]; kernel_rfl) (by decide +kernel) (by decide +kernel) (by decide +kernel)
    (by first | exact .inl (by decide +kernel) | exact .inr (by decide +kernel)) (by rw [isSubtype_type]; kernel_rfl)
theorem type_pat_match : typeOf (.builtin "re.Pattern.match") = pure (.type "method_descriptor") := by show builtinType _ = _; rw [builtinType_eq_fast]; kernel_rfl
theorem entry_pat_match : entryFor table "re.Pattern.match" = some Builtin.«re.Pattern.match» := entryFor_of_tree (by kernel_rfl)
theorem args_pat_match (a b c : Value) : argsOk "re.Pattern.match" ⟨[a, b, c], []⟩ := by unfold argsOk; kernel_rfl
theorem slot_mat_end : Slot "re.Match" "end" "re.Match.end" :=
  .of (owner := "re.Match") (n := "end") (by rw [typeLookup_type, builtinLookup_eq_fast]; kernel_rfl) (by decide +kernel) (by decide +kernel) (by decide +kernel)
    (by first | exact .inl (by decide +kernel) | exact .inr (by decide +kernel)) (by rw [isSubtype_type]; kernel_rfl)
theorem type_mat_end : typeOf (.builtin "re.Match.end") = pure (.type "method_descriptor") := by show builtinType _ = _; rw [builtinType_eq_fast]; kernel_rfl
theorem entry_mat_end : entryFor table "re.Match.end" = some Builtin.«re.Match.end» := entryFor_of_tree (by kernel_rfl)
theorem args_mat_end (a : Value) : argsOk "re.Match.end" ⟨[a], []⟩ := by unfold argsOk; kernel_rfl
end Mine
end
section
open PySem PySem.W PySem.Calls PyProof.Rows
set_option linter.all false
set_option maxRecDepth 100000
namespace Mine
open PySem.Builtin.Re

theorem runFor_fix {m : Sre.M} (h : m.outcome.isSome = true) : ∀ n, m.runFor n = m
  | 0 => rfl
  | n + 1 => by unfold Sre.M.runFor; rw [if_pos h]
theorem runFor_add : ∀ (a b : Nat) (m : Sre.M), m.runFor (a + b) = (m.runFor a).runFor b
  | 0, b, m => by rw [Nat.zero_add]; rfl
  | a + 1, b, m => by
    by_cases h : m.outcome.isSome = true
    · rw [runFor_fix h, runFor_fix h, runFor_fix h]
    · have e : a + 1 + b = (a + b) + 1 := by omega
      rw [e]
      show (if m.outcome.isSome = true then m else Sre.M.runFor (a + b) m.step) = Sre.M.runFor b (if m.outcome.isSome = true then m else Sre.M.runFor a m.step)
      rw [if_neg h, if_neg h, runFor_add a b]
section
variable {M : Model} {A : Around} {E : Value → Shared → Prop} {s : Shared}
theorem wp_reDrive {Q : Sre.M → Shared → Prop} : ∀ (turns k : Nat) (m : Sre.M), k < turns → (m.runFor (4 * (k + 1))).outcome.isSome = true → Q (m.runFor (4 * (k + 1))) s → wpAny M A (reDrive turns m) Q E s
  | 0, k, m, hk, _, _ => absurd hk (Nat.not_lt_zero _)
  | turns + 1, k, m, hk, ho, q => by
    show wpAny M A (if (m.runFor reTurnSteps).outcome.isSome = true then pure (m.runFor reTurnSteps) else rule "sre.turn" >>= fun _ => reDrive turns (m.runFor reTurnSteps)) Q E s
    have e : 4 * (k + 1) = 4 + 4 * k := by omega
    rw [e, runFor_add] at ho q
    have e4 : reTurnSteps = 4 := rfl
    rw [e4]
    split
    · rename_i h
      rw [runFor_fix h] at q
      exact wpAny_pure q
    · rename_i h
      cases k with
      | zero => exact absurd ho h
      | succ k => exact wpAny_bind (wpAny_rule (wp_reDrive turns k _ (by omega) ho q))
theorem wp_rules {m : Sre.M} {Q : PUnit → Shared → Prop} : ∀ (l : List Nat), Q ⟨⟩ s → wpAny M A (forIn l PUnit.unit fun i _ => (if m.seen.has i = true then (rule (Sre.names.getD i "") >>= fun _ => pure (ForInStep.yield PUnit.unit)) else pure (ForInStep.yield PUnit.unit) : Sem (ForInStep PUnit))) Q E s
  | [], q => by rw [List.forIn_nil]; exact wpAny_pure q
  | i :: l, q => by
    rw [List.forIn_cons]
    refine wpAny_bind ?_
    split
    · exact wpAny_bind (wpAny_rule (wpAny_pure (wp_rules l q)))
    · exact wpAny_pure (wp_rules l q)
/-- a machine that comes to its end -/
theorem wp_toEnd {m mf : Sre.M} {k : Nat} {b : Bool} {Q : Option Sre.M → Shared → Prop} (hk : k < 2 ^ 64) (hm : m.runFor (4 * (k + 1)) = mf) (ho : mf.outcome = some (if b then .matched else .failed)) (q : Q (if b then some mf else none) s) : wpAny M A (reRunToEnd m) Q E s := by
  unfold reRunToEnd
  refine wpAny_bind (wp_reDrive (2 ^ 64) k m hk (by rw [hm, ho]; rfl) ?_)
  rw [hm]
  refine wpAny_bind (wp_rules _ ?_)
  rw [ho]
  cases b <;> exact wpAny_pure q
end
section
variable {prog : Program} {w : World} {A : Around} {E : Value → Shared → Prop} {h : Heap} {g : Array GenState} {d : Drawn} {t : Nat} {os : OsState} {a : Addr} {o : Obj}
structure PatAt (h : Heap) (p : Addr) (code : Array Nat) (groups : Nat) : Prop where
  at_ : ∃ fs cl cs ep tk, h.get? p = some { cls := .type "re.Pattern", data := .fields fs } ∧ fs.getD 2 .none = .int (groups : Int) tk ∧ fs.getD 5 .none = .ref cl ∧ (∃ tk', fs.getD 6 .none = .int 0 tk') ∧ h.get? cl = some (tupO cs ep) ∧ (cs.map reRawOf).map (·.toNat) = code
def clipN (k : Int) (n : Nat) : Nat := min k.toNat n
/-- what a match is, as an object -/
def spanV (groups : Nat) (m : Sre.M) : List Value := (List.range groups).flatMap fun g =>
    match if ((2 * g + 1 : Nat) : Int) ≤ m.lastmark then (m.marks.getD (2 * g) none, m.marks.getD (2 * g + 1) none) else (none, none) with
    | (some b, some e) => [rawInt b, rawInt e]
    | _ => [rawInt (-1), rawInt (-1)]
theorem wp_ssize {k : Int} {tk : Tok} {Q : Int → Shared → Prop} {s : Shared} (hk : -(2 ^ 63) ≤ k) (hk' : k < 2 ^ 63) (q : Q k s) : wpAny (model prog w) A (reSsize (.int k tk)) Q E s := by
  unfold reSsize
  refine wpAny_bind (wpAny_of_eq (a := k) (by kernel_rfl) ?_)
  rw [if_neg]
  · exact wpAny_pure q
  · simp only [Bool.or_eq_true, decide_eq_true_eq, not_or, Int.not_lt, ge_iff_le, Int.not_le]
    exact ⟨hk, hk'⟩
theorem patRun {p : Addr} {code : Array Nat} {groups : Nat} {x : Str} {tx : Tok} {k : Int} {tk : Tok} {Q : Fin → Shared → Prop} (P : PatAt h p code groups) (hk : -(2 ^ 63) ≤ k) (hk' : k < 2 ^ 63)
    (hq : wpAny (model prog w) A (reRunToEnd (Sre.forMatch code x.cps groups (clipN k x.cps.size) x.cps.size false false)) (fun m s' => wpAny (model prog w) A (match m with
      | some m => do ret (← reNewMatch (.ref p) (.str x tx) groups (clipN k x.cps.size) x.cps.size m)
      | none => ret .none) Q E s') E ⟨h, g, d, t, os⟩) (hz : x.cps.size < 2 ^ 62) :
    wpAny (model prog w) A (Builtin.«re.Pattern.match» ⟨[.ref p, .str x tx, .int k tk], []⟩) Q E ⟨h, g, d, t, os⟩ := by
  obtain ⟨fs, cl, cs, ep, tk', h1, h2, h3, ⟨tk'', h4⟩, h5, h6⟩ := P.at_
  unfold Builtin.«re.Pattern.match»
  refine wpAny_bind ?_
  unfold reTarget
  dsimp only
  refine wpAny_bind (wpAny_of_eq (a := [some (.str x tx), some (.int k tk), none]) (by kernel_rfl) ?_)
  dsimp only
  refine wpAny_bind (wp_ssize hk hk' ?_)
  refine wpAny_bind (wpAny_pure ?_)
  refine wpAny_bind (wpAny_fieldsOf h1 rfl (wpAny_bind ?_))
  refine wpAny_of_eq (a := (x.cps, 0)) (by kernel_rfl) ?_
  rw [h4]
  dsimp only
  rw [if_neg (by show ¬ ((((0 : Int).toNat == 0) && ((0 : Nat) == 1)) = true); decide), if_neg (by show ¬ ((((0 : Int).toNat == 1) && ((0 : Nat) == 0)) = true); decide)]
  refine wpAny_bind (wpAny_of_eq (a := ()) (by kernel_rfl) ?_)
  rw [h3, h2]
  refine wpAny_bind ?_
  unfold reRawItems
  refine wpAny_bind (wpAny_seqItems h5 rfl (wpAny_pure (wpAny_pure ?_)))
  dsimp only
  refine wpAny_bind ?_
  have e1 : min k.toNat x.cps.size = clipN k x.cps.size := rfl
  have e2 : min (2 ^ 63 - 1 : Int).toNat x.cps.size = x.cps.size := by
    rw [Nat.min_eq_right]; omega
  show wpAny _ _ (reRunToEnd (Sre.forMatch (Array.map (fun x => x.toNat) (Array.map reRawOf cs)) x.cps (groups : Int).toNat (min k.toNat x.cps.size) (min (2 ^ 63 - 1 : Int).toNat x.cps.size) false false)) _ _ _
  rw [h6, e1, e2, Int.toNat_natCast]
  refine wpAny_mono hq (fun m s' h' => ?_) fun _ _ x => x
  cases m with
  | none => exact h'
  | some m =>
    have e3 : reRawNat (Value.int (groups : Int) tk') = groups := by show (groups : Int).toNat = groups; simp
    rw [e3]
    exact h'
end
end Mine
end
section
open PySem PySem.W PySem.Calls PyProof.Rows
set_option linter.all false
set_option maxRecDepth 100000
namespace Mine
open PySem.Builtin.Re
section
variable {prog : Program} {w : World} {A : Around} {E : Value → Shared → Prop} {h : Heap} {g : Array GenState} {d : Drawn} {t : Nat} {os : OsState} {a : Addr} {o : Obj}
theorem sigM : Manifest.signature? "re.Pattern.match" = some ⟨.keywords, "Pattern.match", "match", .self, [⟨"string", .posOrKw, true⟩, ⟨"pos", .posOrKw, false⟩, ⟨"endpos", .posOrKw, false⟩]⟩ := by kernel_rfl
theorem kindM : builtinKind "re.Pattern.match" = some .method := by decide +kernel
theorem pmod : isSubtype (.type "re.Pattern") (.type "module") = pure false := by rw [isSubtype_type]; kernel_rfl
theorem ptyp : isSubtype (.type "re.Pattern") (.type "type") = pure false := by rw [isSubtype_type]; kernel_rfl
theorem checkMatch {x y : Value} {fs : Array Value} {Q : Unit → Shared → Prop} (hx : h.get? a = some { cls := .type "re.Pattern", data := .fields fs }) (hq : Q () ⟨h, g, d, t, os⟩) : wpAny (model prog w) A (checkBoundCall "re.Pattern.match" ⟨[.ref a, x, y], []⟩) Q E ⟨h, g, d, t, os⟩ := by
  have hT : (⟨h, g, d, t, os⟩ : Shared).TypeIs (.ref a) "re.Pattern" := ⟨_, hx, rfl⟩
  have f1 := pmod
  have f2 := ptyp
  have f3 : Manifest.varargsMethods.contains "re.Pattern.match" = false := by decide +kernel
  unfold checkBoundCall
  rw [sigM, kindM]
  dsimp only
  rw [if_neg (by decide)]
  refine wpAny_bind (wpAny_isInstance hT pmod ?_)
  rw [f3]
  simp only [Bool.or_false, Bool.false_eq_true, if_false]
  unfold isType
  refine wpAny_bind (wpAny_bind (wpAny_loadPart hx (wpAny_pure ?_)))
  dsimp only
  rw [if_neg Bool.false_ne_true]
  refine wpAny_bind (wpAny_typeOf hT ?_)
  exact wpAny_of_eq (by kernel_rfl) hq
/-- what a bound match does -/
theorem bmMatch {p b : Addr} {code : Array Nat} {groups : Nat} {x : Str} {tx : Tok} {k : Int} {tk : Tok} {mf : Sre.M} {n : Nat} {yes : Bool} {R : Result → Shared → Prop} (hx : h.get? b = some { cls := .type "builtin_function_or_method", data := .fields #[.builtin "re.Pattern.match", .ref p] })
    (P : PatAt h p code groups) (hk : -(2 ^ 63) ≤ k) (hk' : k < 2 ^ 63) (hz : x.cps.size < 2 ^ 62) (hn : n < 2 ^ 64)
    (hm : (Sre.forMatch code x.cps groups (clipN k x.cps.size) x.cps.size false false).runFor (4 * (n + 1)) = mf) (ho : mf.outcome = some (if yes then .matched else .failed))
    (hw : (List.range groups).any (fun g => match mf.marks.getD (2 * g) none, mf.marks.getD (2 * g + 1) none with | some b, some e => ((2 * g + 1 : Nat) : Int) ≤ mf.lastmark && e < b | _, _ => false) = false)
    (hq1 : yes = true → R (.ok (.ret (.ref (h.objs.size + 1)))) ⟨(h.push { cls := .type "tuple", data := .seq (rawInt mf.start :: rawInt mf.handed :: spanV groups mf).toArray }).push
      { cls := .type "re.Match", data := .fields #[.str x tx, .ref p, rawInt (clipN k x.cps.size), rawInt x.cps.size, rawInt mf.lastindex, .ref h.objs.size] }, g, d, t, os⟩)
    (hq0 : yes = false → R (.ok (.ret .none)) ⟨h, g, d, t, os⟩) (hgs : groups ≤ 1000) :
    codeAny (model prog w) A (.call (.ref b) ⟨[.str x tx, .int k tk], []⟩) R ⟨h, g, d, t, os⟩ := by
  obtain ⟨fs, cl, cs, ep, tk', h1, _⟩ := P.at_
  refine codeAny_of_tree ?_
  show wpAny _ A.in1 (callAny (.ref b) ⟨[.str x tx, .int k tk], []⟩) _ _ _
  simp only [callAny]
  refine wpAny_bind (wpAny_load hx ?_)
  show wpAny _ _ (checkBoundCall "re.Pattern.match" ⟨[.ref p, .str x tx, .int k tk], []⟩ >>= fun _ => again (.builtin "re.Pattern.match" ⟨[.ref p, .str x tx, .int k tk], []⟩)) _ _ _
  refine wpAny_bind (checkMatch h1 (wpAny_pure ⟨Code.quiet_builtin _ (by decide +kernel), codeAny_builtin entry_pat_match ?_⟩))
  refine patRun P hk hk' (wp_toEnd hn hm ho ?_) hz
  cases yes with
  | false => exact wpAny_pure (hq0 rfl)
  | true =>
    have key : reNewMatch (.ref p) (.str x tx) groups (clipN k x.cps.size) x.cps.size mf = (newTuple (rawInt mf.start :: rawInt mf.handed :: spanV groups mf) >>= fun tv => newFields "re.Match" [.str x tx, .ref p, rawInt (clipN k x.cps.size), rawInt x.cps.size, rawInt mf.lastindex, tv]) := by
      unfold reNewMatch
      exact if_neg (fun e => by have := hw.symm.trans e; cases this)
    refine wpAny_bind ?_
    rw [key]
    refine wpAny_bind (wpAny_newTuple ?_ ?_)
    · unfold newFields
      refine wpAny_newObj_type ?_ (by size_fits)
      refine wpAny_pure ?_
      have := hq1 rfl
      rw [Heap.size_push]
      exact this
    · have hl : ∀ (f : Nat → Option Nat × Option Nat) (l : List Nat), (l.flatMap fun g => match f g with
          | (some b, some e) => [rawInt b, rawInt e]
          | _ => [rawInt (-1), rawInt (-1)]).length = 2 * l.length := by
        intro f l
        induction l with
        | nil => rfl
        | cons a l ih =>
          rw [List.flatMap_cons, List.length_append, ih]
          have : ∀ (o : Option Nat × Option Nat), (match o with | (some b, some e) => [rawInt b, rawInt e] | _ => [rawInt (-1), rawInt (-1)]).length = 2 := by
            rintro ⟨_ | _, _ | _⟩ <;> rfl
          rw [this]; simp; omega
      have hl2 : (spanV groups mf).length = 2 * (List.range groups).length := hl (fun g => if ((2 * g + 1 : Nat) : Int) ≤ mf.lastmark then (mf.marks.getD (2 * g) none, mf.marks.getD (2 * g + 1) none) else (none, none)) _
      show (_ :: _ :: spanV groups mf).length ≤ _
      rw [List.length_cons, List.length_cons, hl2, List.length_range, sizeLine_eq]
      omega
end
end Mine
end
section
open PySem PySem.W PySem.Calls PyProof.Rows
set_option linter.all false
set_option maxRecDepth 100000
namespace Mine
open PySem.Builtin.Re
theorem slot_pat_ga : Slot "re.Pattern" "__getattribute__" "object.__getattribute__" :=
  .of (owner := "object") (n := "__getattribute__") (by rw [typeLookup_type, builtinLookup_eq_fast]; kernel_rfl) (by decide +kernel) (by decide +kernel) (by decide +kernel)
    (by first | exact .inl (by decide +kernel) | exact .inr (by decide +kernel)) (by rw [isSubtype_type]; kernel_rfl)
theorem entry_ga : entryFor table "object.__getattribute__" = some Builtin.«object.__getattribute__» := entryFor_of_tree (by kernel_rfl)
theorem args_ga (a b : Value) : argsOk "object.__getattribute__" ⟨[a, b], []⟩ := by unfold argsOk; kernel_rfl
theorem lkMatch : typeLookup (.type "re.Pattern") "match" = pure (some (.builtin "re.Pattern.match")) := by rw [typeLookup_type, builtinLookup_eq_fast]; kernel_rfl
theorem ownMatch : isSubtype (.type "re.Pattern") (.type (".".intercalate ("re.Pattern.match".cutAt '.').dropLast)) = pure true := by
  have e1 : (".".intercalate ("re.Pattern.match".cutAt '.').dropLast) = "re.Pattern" := by decide +kernel
  rw [e1, isSubtype_type]; kernel_rfl
section
variable {prog : Program} {w : World} {A : Around} {E : Value → Shared → Prop} {h : Heap} {g : Array GenState} {d : Drawn} {t : Nat} {os : OsState} {a : Addr} {o : Obj}
abbrev bmO (id : String) (x : Value) : Obj := { cls := .type "builtin_function_or_method", data := .fields #[.builtin id, x] }
theorem pmRun {fs : Array Value} {Q : Fin → Shared → Prop} (hx : h.get? a = some { cls := .type "re.Pattern", data := .fields fs }) (hq : Q (.done (.ret (.ref h.objs.size))) ⟨h.push (bmO "re.Pattern.match" (.ref a)), g, d, t, os⟩) :
    wpAny (model prog w) A (Builtin.«method_descriptor.__get__» ⟨[.builtin "re.Pattern.match", .ref a, .type "re.Pattern"], []⟩) Q E ⟨h, g, d, t, os⟩ := by
  have hT : (⟨h, g, d, t, os⟩ : Shared).TypeIs (.ref a) "re.Pattern" := ⟨_, hx, rfl⟩
  have f5 := type_pat_match
  have f6 := ownMatch
  repeat (any_goals (first | assumption | wp_step))
theorem pmCall {fs : Array Value} {R : Result → Shared → Prop} (hx : h.get? a = some { cls := .type "re.Pattern", data := .fields fs }) (hq : R (.ok (.ret (.ref h.objs.size))) ⟨h.push (bmO "re.Pattern.match" (.ref a)), g, d, t, os⟩) :
    codeAny (model prog w) A (.call (.builtin "method_descriptor.__get__") ⟨[.builtin "re.Pattern.match", .ref a, .type "re.Pattern"], []⟩) R ⟨h, g, d, t, os⟩ :=
  codeAny_call_builtin mdGet.plain mdEntry (mdGet.check _ _ _ _ _ _ _ _ (show (⟨h, g, d, t, os⟩ : Shared).TypeIs (.builtin "re.Pattern.match") "method_descriptor" from type_pat_match) (mdArgs _ _ _) (pmRun hx hq))
theorem pmEntry {fs : Array Value} {tk : Tok} {Q : Fin → Shared → Prop} (hx : h.get? a = some { cls := .type "re.Pattern", data := .fields fs }) (hq : Q (.done (.ret (.ref h.objs.size))) ⟨h.push (bmO "re.Pattern.match" (.ref a)), g, d, t, os⟩) :
    wpAny (model prog w) A (Builtin.«object.__getattribute__» ⟨[.ref a, .str "match" tk], []⟩) Q E ⟨h, g, d, t, os⟩ := by
  have hT : (⟨h, g, d, t, os⟩ : Shared).TypeIs (.ref a) "re.Pattern" := ⟨_, hx, rfl⟩
  have f4 := lkMatch
  have f5 := type_pat_match
  have f6 := mdGet.lookup
  have f7 := mdSet
  have f8 := mdDel
  repeat (any_goals (first | assumption | wp_step))
  refine pmCall hx ?_
  repeat (any_goals (first | assumption | wp_step))
theorem pmGa {fs : Array Value} {tk : Tok} {R : Result → Shared → Prop} (hx : h.get? a = some { cls := .type "re.Pattern", data := .fields fs }) (hq : R (.ok (.ret (.ref h.objs.size))) ⟨h.push (bmO "re.Pattern.match" (.ref a)), g, d, t, os⟩) :
    codeAny (model prog w) A (.call (.builtin "object.__getattribute__") ⟨[.ref a, .str "match" tk], []⟩) R ⟨h, g, d, t, os⟩ :=
  codeAny_call_builtin slot_pat_ga.plain entry_ga (slot_pat_ga.check _ _ _ _ _ _ _ _ (show (⟨h, g, d, t, os⟩ : Shared).TypeIs (.ref a) "re.Pattern" from ⟨_, hx, rfl⟩) (args_ga _ _) (pmEntry hx hq))
theorem pmGet {fs : Array Value} {expr : Bool} {Q : Value → Shared → Prop} (hx : h.get? a = some { cls := .type "re.Pattern", data := .fields fs }) (hq : Q (.ref h.objs.size) ⟨h.push (bmO "re.Pattern.match" (.ref a)), g, d, t + 1, os⟩) :
    wpAny (model prog w) A (getAttr (.ref a) "match" expr) Q E ⟨h, g, d, t, os⟩ := by
  have hT : (⟨h, g, d, t, os⟩ : Shared).TypeIs (.ref a) "re.Pattern" := ⟨_, hx, rfl⟩
  have f2 := slot_pat_ga.lookup
  have f3 := slot_pat_ga.bind (.ref a)
  have f4 : (expr && onTheHeap (Value.builtin "object.__getattribute__")) = false := by cases expr <;> rfl
  have hne : ¬ ((expr && onTheHeap (Value.builtin "object.__getattribute__")) = true) := by rw [f4]; exact Bool.false_ne_true
  unfold getAttr getAttrBy
  repeat (any_goals (first | assumption | wp_step))
  all_goals (refine pmGa hx ?_)
  repeat (any_goals (first | assumption | wp_step))
end
section
variable {X : SX} {env : Env} {d : Nat} {st st' : St} {fz kp : FH} {kg : Nat → Option GenState} {ρ : List Addr} {led : List MObj} {s : Shared}
/-- a pattern of the top -/
structure PatK (X : SX) (p : Addr) (code : Array Nat) (groups : Nat) : Prop where
  at_ : ∃ fs cl cs ep tk, X.K.lookup p = some { cls := .type "re.Pattern", data := .fields fs } ∧ fs.getD 2 .none = .int (groups : Int) tk ∧ fs.getD 5 .none = .ref cl ∧ (∃ tk', fs.getD 6 .none = .int 0 tk') ∧ X.K.lookup cl = some (tupO cs ep) ∧ (cs.map reRawOf).map (·.toNat) = code
def patOf (K : Frag) (p : Addr) : Option (Array Nat × Nat) :=
  match K.lookup p with
  | some { cls := .type T, dict := none, data := .fields fs, slots := ⟨[]⟩ } => if T = "re.Pattern" then match fs.getD 2 .none, fs.getD 5 .none, fs.getD 6 .none with
    | .int g _, .ref cl, .int 0 _ => match K.lookup cl with
      | some { cls := .type T2, dict := none, data := .seq cs _, slots := ⟨[]⟩ } => if T2 = "tuple" ∧ 0 ≤ g then some ((cs.map reRawOf).map (·.toNat), g.toNat) else none
      | _ => none
    | _, _, _ => none else none
  | _ => none
theorem PatK.of {p : Addr} {code : Array Nat} {groups : Nat} (h : patOf X.K p = some (code, groups)) : PatK X p code groups := by
  unfold patOf at h
  split at h
  · rename_i T fs e1
    split at h
    · rename_i eT
      subst eT
      split at h
      · rename_i g tk cl tk2 e2 e3 e4
        split at h
        · rename_i T2 cs ep e5
          split at h
          · rename_i hT
            obtain ⟨hT, hg⟩ := hT
            subst hT
            cases h
            exact ⟨fs, cl, cs, ep, tk, e1, by rw [e2, Int.toNat_of_nonneg hg], e3, ⟨_, e4⟩, e5, rfl⟩
          · cases h
        · cases h
      · cases h
    · cases h
  · cases h
theorem PatK.here {p : Addr} {code : Array Nat} {groups : Nat} (P : PatK X p code groups) (XO : SXOk X) (R : LRel X fz kp kg ρ led s) : PatAt s.heap p code groups := by
  obtain ⟨fs, cl, cs, ep, tk, h1, h2, h3, h4, h5, h6⟩ := P.at_
  have KI := R.kin XO
  exact ⟨fs, cl, cs, ep, tk, KI _ _ h1, h2, h3, h4, KI _ _ h5, h6⟩
theorem GtE.patMatch (XO : SXOk X) {p : Addr} {code : Array Nat} {groups : Nat} (P : PatK X p code groups) : GtE X env d (.obj (.ref p)) "match" st (.bm "re.Pattern.match" (.obj (.ref p))) st :=
  fun A fz kp kg ρ s va expr ok R h Q E q => by
    simp only [VRel] at h
    subst h
    obtain ⟨fs, cl, cs, ep, tk, h1, _⟩ := (P.here XO R.toLRel).at_
    obtain ⟨hh, g, dr, t, os⟩ := s
    refine pmGet h1 ?_
    have hn : hh.get? hh.objs.size = none := none_of_size
    have R' := R.new (h' := hh.push (bmO "re.Pattern.match" (.ref p))) (tk := t + 1) hn (fun _ _ e => Heap.get?_push_of_some _ e) (Heap.get?_push_size _ rfl)
    have g' : Grow fz ρ _ ρ := grow_upd (o := bmO "re.Pattern.match" (.ref p)) (R.fz_none hn)
    refine q _ _ _ _ R' g' ?_
    simp only [VRel]
    exact ⟨_, _, rfl, upd_self .., rfl⟩

def spanM (groups : Nat) (m : Sre.M) : List MVal := (List.range groups).flatMap fun g =>
    match if ((2 * g + 1 : Nat) : Int) ≤ m.lastmark then (m.marks.getD (2 * g) none, m.marks.getD (2 * g + 1) none) else (none, none) with
    | (some b, some e) => [.int b, .int e]
    | _ => [.int (-1), .int (-1)]
theorem span_rel {groups : Nat} {m : Sre.M} : VRels fz ρ (spanM groups m) (spanV groups m) := by
  unfold spanM spanV
  generalize List.range groups = l
  induction l with
  | nil => simp [VRels]
  | cons a l ih =>
    rw [List.flatMap_cons, List.flatMap_cons]
    refine VRels.append ?_ ih
    generalize (if ((2 * a + 1 : Nat) : Int) ≤ m.lastmark then (m.marks.getD (2 * a) none, m.marks.getD (2 * a + 1) none) else (none, none)) = o
    rcases o with ⟨_ | _, _ | _⟩ <;> (simp only [VRels, VRel]; exact ⟨_, _, rfl, ⟨_, rfl⟩, _, _, rfl, ⟨_, rfl⟩, rfl⟩)
def matM (x : Str) (p : Addr) (k : Int) (groups : Nat) (m : Sre.M) : MVal :=
  .fo "re.Match" [.str x, .obj (.ref p), .int (clipN k x.cps.size), .int x.cps.size, .int m.lastindex, .tup (.int m.start :: .int m.handed :: spanM groups m)]
/-- whether it is a bound «match» of that pattern -/
def isMatchK (X : SX) (f : MVal) (p : Addr) : Prop := (∃ b, f = .obj (.ref b) ∧ X.K.lookup b = some (bmO "re.Pattern.match" (.ref p))) ∨ f = .bm "re.Pattern.match" (.obj (.ref p))
theorem AppE.match_ (XO : SXOk X) {f : MVal} {p : Addr} {code : Array Nat} {groups : Nat} {x : Str} {k : Int} {mf : Sre.M} {n : Nat} {yes : Bool} (P : PatK X p code groups) (hf : isMatchK X f p) (hk : -(2 ^ 63) ≤ k) (hk' : k < 2 ^ 63) (hz : x.cps.size < 2 ^ 62) (hn : n < 2 ^ 64)
    (hm : (Sre.forMatch code x.cps groups (clipN k x.cps.size) x.cps.size false false).runFor (4 * (n + 1)) = mf) (ho : mf.outcome = some (if yes then .matched else .failed))
    (hw : (List.range groups).any (fun g => match mf.marks.getD (2 * g) none, mf.marks.getD (2 * g + 1) none with | some b, some e => ((2 * g + 1 : Nat) : Int) ≤ mf.lastmark && e < b | _, _ => false) = false) (hgs : groups ≤ 1000) :
    AppE X env d f [.str x, .int k] [] st (if yes then matM x p k groups mf else .none) st :=
  fun A fz kp kg ρ s fv us kvs ok R hfv hv hkv Q E q => by
    have ek := kvs_nil hkv; subst ek
    simp only [VRels, VRel] at hv
    obtain ⟨v1, r1, rfl, ⟨t1, rfl⟩, v2, r2, rfl, ⟨t2, rfl⟩, rfl⟩ := hv
    have hb : ∃ b, fv = .ref b ∧ s.heap.get? b = some (bmO "re.Pattern.match" (.ref p)) := by
      rcases hf with ⟨b, rfl, hb⟩ | rfl
      · simp only [VRel] at hfv; exact ⟨b, hfv, R.kin XO _ _ hb⟩
      · simp only [VRel] at hfv
        obtain ⟨b, y, rfl, hb, rfl⟩ := hfv
        exact ⟨b, rfl, R.ifz _ _ hb⟩
    obtain ⟨b, rfl, hb⟩ := hb
    have PA := P.here XO R.toLRel
    obtain ⟨hh, g, dr, t, os⟩ := s
    refine wpAny_call (bmMatch hb PA hk hk' hz hn hm ho hw (fun hy => ?_) (fun hy => ?_) hgs)
    · subst hy
      have hn1 : hh.get? hh.objs.size = none := none_of_size
      have R1 := R.new (h' := hh.push (tupO (rawInt mf.start :: rawInt mf.handed :: spanV groups mf).toArray 0)) (tk := t) hn1 (fun _ _ e => Heap.get?_push_of_some _ e) (Heap.get?_push_size _ rfl)
      have hsz : (hh.push (tupO (rawInt mf.start :: rawInt mf.handed :: spanV groups mf).toArray 0)).objs.size = hh.objs.size + 1 := by rw [Heap.size_push]
      have hn2 : (hh.push (tupO (rawInt mf.start :: rawInt mf.handed :: spanV groups mf).toArray 0)).get? (hh.objs.size + 1) = none := hsz ▸ none_of_size
      have R2 := R1.new (h' := (hh.push (tupO (rawInt mf.start :: rawInt mf.handed :: spanV groups mf).toArray 0)).push { cls := .type "re.Match", data := .fields #[.str x t1, .ref p, rawInt (clipN k x.cps.size), rawInt x.cps.size, rawInt mf.lastindex, .ref hh.objs.size] }) (a := hh.objs.size + 1) (tk := t) hn2 (fun _ _ e => Heap.get?_push_of_some _ e) (hsz ▸ Heap.get?_push_size _ rfl)
      have g1 : Grow fz ρ _ ρ := grow_upd (o := tupO (rawInt mf.start :: rawInt mf.handed :: spanV groups mf).toArray 0) (R.fz_none hn1)
      have g2 := grow_upd (ρ := ρ) (o := { cls := .type "re.Match", data := .fields #[.str x t1, .ref p, rawInt (clipN k x.cps.size), rawInt x.cps.size, rawInt mf.lastindex, .ref hh.objs.size] }) (R1.fz_none hn2)
      refine q _ _ _ _ R2 (g1.trans g2) ?_
      rw [if_pos rfl]
      simp only [matM, VRel]
      refine ⟨_, _, rfl, upd_self .., ?_⟩
      simp only [VRels, VRel]
      refine ⟨_, _, rfl, ⟨t1, rfl⟩, _, _, rfl, rfl, _, _, rfl, ⟨_, rfl⟩, _, _, rfl, ⟨_, rfl⟩, _, _, rfl, ⟨_, rfl⟩, _, _, rfl, ⟨_, _, rfl, g2.1 _ _ (upd_self ..), ?_⟩, rfl⟩
      exact ⟨_, _, rfl, ⟨_, rfl⟩, _, _, rfl, ⟨_, rfl⟩, span_rel⟩
    · subst hy
      exact q _ _ _ _ R (.refl _ _) (by simp [VRel])
theorem MtE.matEnd {vs : List MVal} : MtE X env d (.fo "re.Match" vs) "end" st (.obj (.builtin "re.Match.end")) [.fo "re.Match" vs] st := fun A fz kp kg ρ s va pl ok R h Q E q => by
  have h' := h
  simp only [VRel] at h
  obtain ⟨a, arr, rfl, h1, h2⟩ := h
  exact getMethod_builtin ⟨_, R.ifz _ _ h1, rfl⟩ plainAttrs_mat slot_mat_end type_mat_end (fun b e => by cases e; exact ⟨_, R.ifz _ _ h1, rfl⟩) (q _ _ _ _ R (.refl _ _) ⟨by simp [VRel], by simp only [VRels]; exact ⟨_, _, rfl, h', rfl⟩⟩)
theorem AppE.matEnd {v0 v1 v2 v3 v4 s0 : MVal} {e : Int} {sp : List MVal} : AppE X env d (.obj (.builtin "re.Match.end")) [.fo "re.Match" [v0, v1, v2, v3, v4, .tup (s0 :: .int e :: sp)]] [] st (.int e) st :=
  fun A fz kp kg ρ s fv us kvs ok R hfv hv hkv Q E q => by
    have ek := kvs_nil hkv; subst ek
    simp only [VRel] at hfv; subst hfv
    simp only [VRels] at hv
    obtain ⟨m, r, rfl, hm, rfl⟩ := hv
    simp only [VRel, VRels] at hm
    obtain ⟨a, arr, rfl, h1, u0, l0, e0, _, u1, l1, rfl, _, u2, l2, rfl, _, u3, l3, rfl, _, u4, l4, rfl, _, u5, l5, rfl, ⟨c, arr2, rfl, h2, w0, k0, e1, _, w1, k1, rfl, ⟨tk, rfl⟩, _⟩, rfl⟩ := hm
    have ha : arr = #[u0, u1, u2, u3, u4, .ref c] := by rw [← Array.toArray_toList (xs := arr), e0]
    subst ha
    refine wpAny_call (codeAny_call_builtin slot_mat_end.plain entry_mat_end (slot_mat_end.check _ _ _ _ _ _ _ _ (show s.TypeIs (.ref a) "re.Match" from ⟨_, R.ifz _ _ h1, rfl⟩) (args_mat_end _) ?_))
    unfold Builtin.«re.Match.end» reOneGroup
    refine wpAny_bind (wpAny_bind (wpAny_of_eq (a := (.ref a, [])) (by kernel_rfl) ?_))
    dsimp only
    unfold reFound
    refine wpAny_bind (wpAny_bind (wpAny_fieldsOf (R.ifz _ _ h1) rfl (wpAny_bind ?_)))
    unfold reRawItems
    refine wpAny_bind (wpAny_seqItems (R.ifz _ _ h2) rfl (wpAny_pure (wpAny_pure (wpAny_pure ?_))))
    have e5 : (Array.map reRawOf arr2).getD 1 (-1) = e := by
      rw [← Array.toArray_toList (xs := arr2), e1]; simp [reRawOf]
    have e6 : (({ fields := #[u0, u1, u2, u3, u4, Value.ref c], spans := Array.map reRawOf ((some arr2).getD #[]) } : ReFound).spans.getD (2 * 0 + 1) (-1)) = e := e5
    show wpAny _ _ (retInt (({ fields := #[u0, u1, u2, u3, u4, Value.ref c], spans := Array.map reRawOf ((some arr2).getD #[]) } : ReFound).spans.getD (2 * 0 + 1) (-1))) _ _ _
    rw [e6]
    unfold retInt
    exact wpAny_bind (wpAny_mkInt (wpAny_pure (q _ _ _ _ (R.tk _) (.refl _ _) (by simp [VRel]))))
end
end Mine
end
section
open PySem PySem.W PySem.Calls PyProof.Rows
set_option linter.all false
set_option maxRecDepth 100000
namespace Mine

/-- what the walk is told on its way -/
inductive Ans where
  | a | z
  | b (b : Bool)
  | m (b : Bool)
  | v (r : MVal) (led : List MObj)
  | f (f : MFlow) (st : St)
  | l (ys : List MVal) (led : List MObj)
  | i (j : Nat) (v : MVal)
  | c (st : St)
  | k (n : Nat) (f : MFlow) (st : St)
  | e (p : Pos) (v : MVal) (st : St)
  | r (r : MVal)
/-- what is still to be told, and what is to be shown -/
structure Wk where
  o : List Ans
  p : List Prop
def Wk.say (w : Wk) (p : Prop) : Wk := ⟨w.o, p :: w.p⟩
def AllP : List Prop → Prop
  | [] => True
  | p :: r => p ∧ AllP r
theorem AllP.say {w : Wk} {p : Prop} (h : AllP (w.say p).p) : AllP w.p ∧ p := ⟨h.2, h.1⟩

/-- what of a frame is fixed -/
structure Cx where
  sc : Scope
  code : Option Addr
  qual : Str
structure Is (env : Env) (c : Cx) : Prop where
  ok : EnvOk env
  sc : env.scope = c.sc
  code : ∀ a, c.code = some a → env.code = .ref a
  qual : env.qual = c.qual
theorem Is.kind {env : Env} {c : Cx} (I : Is env c) (x : Str) : env.kindOf x = c.sc.names.lookup x := by unfold Env.kindOf; rw [I.sc]
def relabelS (scope sc : Scope) : Scope :=
  { scope with names := scope.names.map fun (n, k) => if (k == .free && sc.kind == .function && sc.names.lookup n == some .cell) then (n, .cell) else (n, k) }
def Cx.comp (c : Cx) (scope : Scope) : Cx := ⟨relabelS scope c.sc, c.code, c.qual⟩
theorem Is.comp {env : Env} {c : Cx} (I : Is env c) {scope : Scope} (hk : scope.kind = .function) (cl : List (Str × Addr)) (C : Addr) : Is (compEnvC scope cl C env) (c.comp scope) where
  ok := ⟨hk, I.ok.g, I.ok.b⟩
  sc := by
    show relabel scope env = relabelS scope c.sc
    unfold relabel relabelS
    rw [I.sc]
    congr 1
    funext
    simp only [I.kind]
  code := I.code
  qual := I.qual

structure Gt where
  g : List (Str × Value)
  b : List (Str × Value)
structure GtOk (X : SX) (G : Gt) : Prop where
  g : ∀ x v, G.g.lookup x = some v → X.mg x = some v
  b : ∀ x v, G.b.lookup x = some v → X.mg x = none ∧ bootBuiltins x = some v ∧ x ≠ "__name__"

theorem bind_some {α β : Type} {x : Option α} {f : α → Option β} {y : β} (h : x.bind f = some y) : ∃ a, x = some a ∧ f a = some y := Option.bind_eq_some_iff.mp h
theorem map_some {α β : Type} {x : Option α} {f : α → β} {y : β} (h : x.map f = some y) : ∃ a, x = some a ∧ f a = y := Option.map_eq_some_iff.mp h

def ofVal : Value → MVal
  | .none => .none
  | .bool b => .bool b
  | .int i _ => .int i
  | .str s _ => .str s
  | v => .obj v
theorem ofVal_ok {fz : FH} {ρ : List Addr} {v : Value} : VRel fz ρ (ofVal v) v := by
  cases v <;> simp [ofVal, VRel]

-- names
def cellV (st : St) (x : Str) : Option MVal := (st.cells.lookup x).bind fun i => (st.led[i]?).bind fun o => match o with | .cell v => v | _ => none
def evName (G : Gt) (c : Cx) (x : Str) (st : St) : Option MVal :=
  if ((x == ("__debug__" : Str)) || (x == ("__classdict__" : Str))) = true then none else
  match c.sc.names.lookup x with
  | some .local => st.loc.lookup x
  | some .cell => cellV st x
  | some .free => cellV st x
  | some .globalImplicit => match G.g.lookup x with
    | some v => some (ofVal v)
    | none => (G.b.lookup x).map .obj
  | _ => none
theorem cellV_ok {st : St} {x : Str} {v : MVal} (h : cellV st x = some v) : ∃ i, st.cells.lookup x = some i ∧ st.led[i]? = some (.cell (some v)) := by
  unfold cellV at h
  obtain ⟨i, h1, h⟩ := bind_some h
  obtain ⟨o, h2, h⟩ := bind_some h
  split at h
  · subst h; exact ⟨i, h1, h2⟩
  · cases h
section
variable {X : SX} {G : Gt} {env : Env} {c : Cx} {d : Nat} {st st' st₁ st₂ : St} {w w' w₁ w₂ : Wk}
theorem evName_ok (XO : SXOk X) (GO : GtOk X G) {x : Str} {v : MVal} (h : evName G c x st = some v) (I : Is env c) : LdE X env d x st v st ∧ (x == ("__debug__" : Str)) = false := by
  unfold evName at h
  split at h
  · cases h
  · rename_i hx
    simp only [Bool.or_eq_true, not_or, Bool.not_eq_true] at hx
    refine ⟨?_, hx.1⟩
    split at h
    · rename_i e; exact .loc I.ok ((I.kind x).trans e) h
    · rename_i e; obtain ⟨i, h1, h2⟩ := cellV_ok h; exact .cell I.ok ((I.kind x).trans e) h1 h2
    · rename_i e; obtain ⟨i, h1, h2⟩ := cellV_ok h; exact .free I.ok ((I.kind x).trans e) h1 h2 hx.2
    · rename_i e
      split at h
      · rename_i u hu
        cases h
        exact .glob I.ok XO ((I.kind x).trans e) (GO.g _ _ hu) (fun _ _ _ => ofVal_ok)
      · obtain ⟨u, hu, rfl⟩ := map_some h
        obtain ⟨h1, h2, h3⟩ := GO.b _ _ hu
        exact .blt I.ok XO ((I.kind x).trans e) h1 h2 h3
    · cases h

def evBind (c : Cx) (x : Str) (v : MVal) (st : St) : Option St :=
  match c.sc.names.lookup x with
  | some .local => some (st.put x v)
  | some .cell => (st.cells.lookup x).bind fun i => match st.led[i]? with
    | some (.cell _) => some (st.wled (st.led.set i (.cell (some v))))
    | _ => none
  | _ => none
theorem evBind_ok {x : Str} {v : MVal} (h : evBind c x v st = some st') (I : Is env c) : BindE X env d x v st st' := by
  unfold evBind at h
  split at h
  · rename_i e; cases h; exact .loc I.ok ((I.kind x).trans e)
  · rename_i e
    obtain ⟨i, h1, h⟩ := bind_some h
    split at h
    · rename_i h2; cases h; exact .cell I.ok ((I.kind x).trans e) h1 h2
    · cases h
  · cases h
end

/-- the operations that are no control flow -/
structure Pr where
  bin : Operator → MVal → MVal → St → Wk → Option (MVal × St × Wk)
  cmp : CmpOp → MVal → MVal → St → Wk → Option (Bool × Wk)
  tru : MVal → St → Wk → Option (Bool × Wk)
  iop : Operator → MVal → MVal → St → Wk → Option (MVal × St × Wk)
  itm : MVal → MVal → St → Wk → Option (MVal × Wk)
  app : MVal → List MVal → List (Str × MVal) → St → Wk → Option (MVal × St × Wk)
  att : MVal → Str → St → Wk → Option (MVal × St × Wk)
  mth : MVal → Str → St → Wk → Option (MVal × List MVal × Wk)
  itr : MVal → St → Wk → Option (List MVal × Wk)
structure PrOk (X : SX) (d : Nat) (P : Pr) : Prop where
  bin : ∀ {op a b st w r st' w'}, P.bin op a b st w = some (r, st', w') → AllP w'.p → AllP w.p ∧ ∀ env, EnvOk env → BinE X env d op a b st r st'
  cmp : ∀ {op a b st w r w'}, P.cmp op a b st w = some (r, w') → AllP w'.p → AllP w.p ∧ ∀ env, EnvOk env → CmpE X env d op a b st r st
  tru : ∀ {a st w r w'}, P.tru a st w = some (r, w') → AllP w'.p → AllP w.p ∧ ∀ env, EnvOk env → TruE X env d a st r st
  iop : ∀ {op a b st w r st' w'}, P.iop op a b st w = some (r, st', w') → AllP w'.p → AllP w.p ∧ ∀ env, EnvOk env → IopE X env d op a b st r st'
  itm : ∀ {a b st w r w'}, P.itm a b st w = some (r, w') → AllP w'.p → AllP w.p ∧ ∀ env, EnvOk env → ItE X env d a b st r st
  app : ∀ {f args kw st w r st' w'}, P.app f args kw st w = some (r, st', w') → AllP w'.p → AllP w.p ∧ ∀ env, EnvOk env → AppE X env d f args kw st r st'
  att : ∀ {a n st w r st' w'}, P.att a n st w = some (r, st', w') → AllP w'.p → AllP w.p ∧ ∀ env, EnvOk env → GtE X env d a n st r st'
  mth : ∀ {a n st w f fs w'}, P.mth a n st w = some (f, fs, w') → AllP w'.p → AllP w.p ∧ ∀ env, EnvOk env → MtE X env d a n st f fs st
  itr : ∀ {a st w xs w'}, P.itr a st w = some (xs, w') → AllP w'.p → AllP w.p ∧ ∀ env, EnvOk env → IterE X env d a xs st

structure Ev where
  E : Cx → Expr → St → Wk → Option (MVal × St × Wk)
  T : Cx → Expr → St → Wk → Option (Bool × St × Wk)
  A : Cx → Expr → MVal → St → Wk → Option (St × Wk)
  S : Cx → Stmt → St → Wk → Option (MFlow × St × Wk)
  B : Cx → List Stmt → St → Wk → Option (MFlow × St × Wk)
  L : Cx → Expr → List Stmt → St → Wk → Option (MFlow × St × Wk)
structure EvOk (X : SX) (d : Nat) (r : Ev) : Prop where
  E : ∀ {c e st w v st' w'}, r.E c e st w = some (v, st', w') → AllP w'.p → AllP w.p ∧ ∀ env, Is env c → EvE X env d e st v st'
  T : ∀ {c e st w v st' w'}, r.T c e st w = some (v, st', w') → AllP w'.p → AllP w.p ∧ ∀ env, Is env c → TsE X env d e st v st'
  A : ∀ {c e v st w st' w'}, r.A c e v st w = some (st', w') → AllP w'.p → AllP w.p ∧ ∀ env, Is env c → StoreE X env d e v st st'
  S : ∀ {c t st w f st' w'}, r.S c t st w = some (f, st', w') → AllP w'.p → AllP w.p ∧ ∀ env, Is env c → ExS X env d t st f st'
  B : ∀ {c t st w f st' w'}, r.B c t st w = some (f, st', w') → AllP w'.p → AllP w.p ∧ ∀ env, Is env c → ExL X env d t st f st'
  L : ∀ {c e b st w f st' w'}, r.L c e b st w = some (f, st', w') → AllP w'.p → AllP w.p ∧ ∀ env, Is env c → WhileE X env d e b st f st'

def isStar : Expr → Bool
  | .Starred .. => true
  | _ => false
theorem starEach_no {e : Expr} {es : List Expr} {env : Env} (h : isStar e = false) : starEach (e :: es) env = (false, eval e env) :: starEach es env := by
  cases e <;> first | rfl | cases h
theorem assignEach_no {e : Expr} {es : List Expr} {env : Env} (h : isStar e = false) : assignEach (e :: es) env = (false, PySem.assign e env) :: assignEach es env := by
  cases e <;> first | rfl | cases h

section
variable {X : SX} {G : Gt} {P : Pr} {r : Ev} {env : Env} {c : Cx} {d : Nat} {st st' st₁ st₂ : St} {w w' w₁ w₂ : Wk}

def evL (r : Ev) (c : Cx) : List Expr → St → Wk → Option (List MVal × St × Wk)
  | [], st, w => some ([], st, w)
  | e :: es, st, w => if isStar e = true then none else (r.E c e st w).bind fun (v, st, w) => (evL r c es st w).bind fun (vs, st, w) => some (v :: vs, st, w)
theorem evL_ok (R : EvOk X d r) : ∀ {es : List Expr} {st st' : St} {w w' : Wk} {vs : List MVal}, evL r c es st w = some (vs, st', w') → AllP w'.p → AllP w.p ∧ ∀ env, Is env c → ∀ pos, EvL X env d pos es st vs st' := by
  intro es
  induction es with
  | nil => intro st st' w w' vs h a; cases h; exact ⟨a, fun env I pos => .nil⟩
  | cons e es ih =>
    intro st st' w w' vs h a
    unfold evL at h
    split at h
    · cases h
    · rename_i hs
      obtain ⟨⟨v, s1, w1⟩, h1, h⟩ := bind_some h
      obtain ⟨⟨us, s2, w2⟩, h2, h⟩ := bind_some h
      cases h
      obtain ⟨a1, r2⟩ := ih h2 a
      obtain ⟨a0, r1⟩ := R.E h1 a1
      exact ⟨a0, fun env I pos => .cons (r1 env I) (r2 env I pos) (starEach_no (by simpa using hs))⟩
theorem evL_star (R : EvOk X d r) : ∀ {es : List Expr} {st st' : St} {w w' : Wk} {vs : List MVal}, evL r c es st w = some (vs, st', w') → ∀ pos env, (backTo pos (starEach es env)).any (·.1) = false ∧ (backTo pos (starEach es env)).all (!·.1) = true := by
  intro es
  induction es with
  | nil => intro st st' w w' vs h pos env; exact ⟨rfl, rfl⟩
  | cons e es ih =>
    intro st st' w w' vs h pos env
    unfold evL at h
    split at h
    · cases h
    · rename_i hs
      obtain ⟨⟨v, s1, w1⟩, h1, h⟩ := bind_some h
      obtain ⟨⟨us, s2, w2⟩, h2, h⟩ := bind_some h
      have := ih h2 pos env
      rw [starEach_no (by simpa using hs)]
      unfold backTo at this ⊢
      simpa using this

def evK (r : Ev) (c : Cx) : List Keyword → St → Wk → Option (List (Str × MVal) × St × Wk)
  | [], st, w => some ([], st, w)
  | ⟨some n, e, _⟩ :: es, st, w => (r.E c e st w).bind fun (v, st, w) => (evK r c es st w).bind fun (vs, st, w) => some ((n, v) :: vs, st, w)
  | _, _, _ => none
theorem evK_ok (R : EvOk X d r) : ∀ {es : List Keyword} {st st' : St} {w w' : Wk} {vs : List (Str × MVal)}, evK r c es st w = some (vs, st', w') → AllP w'.p → AllP w.p ∧ ∀ env, Is env c → ∀ pos, EvA X env d pos es st vs st' := by
  intro es
  induction es with
  | nil => intro st st' w w' vs h a; cases h; exact ⟨a, fun env I pos => .nil⟩
  | cons e es ih =>
    intro st st' w w' vs h a
    obtain ⟨n, e, p⟩ := e
    cases n with
    | none => cases h
    | some n =>
      unfold evK at h
      obtain ⟨⟨v, s1, w1⟩, h1, h⟩ := bind_some h
      obtain ⟨⟨us, s2, w2⟩, h2, h⟩ := bind_some h
      cases h
      obtain ⟨a1, r2⟩ := ih h2 a
      obtain ⟨a0, r1⟩ := R.E h1 a1
      exact ⟨a0, fun env I pos => .cons (r1 env I) (r2 env I pos)⟩
theorem evK_some : ∀ {es : List Keyword} {st st' : St} {w w' : Wk} {vs : List (Str × MVal)}, evK r c es st w = some (vs, st', w') → ∀ pos env, (backToKw pos (keywordEach es env)).all (·.1.isSome) = true ∧ (backToKw pos (keywordEach es env)).any (·.1.isNone) = false := by
  intro es
  induction es with
  | nil => intro st st' w w' vs h pos env; exact ⟨rfl, rfl⟩
  | cons e es ih =>
    intro st st' w w' vs h pos env
    obtain ⟨n, e, p⟩ := e
    cases n with
    | none => cases h
    | some n =>
      unfold evK at h
      obtain ⟨⟨v, s1, w1⟩, h1, h⟩ := bind_some h
      obtain ⟨⟨us, s2, w2⟩, h2, h⟩ := bind_some h
      have := ih h2 pos env
      unfold backToKw at this ⊢
      simpa [keywordEach] using this

def isSbm (K : Frag) (a : Addr) : Bool :=
  match K.lookup a with
  | some { cls := .type T, dict := none, data := .fields _, slots := ⟨[]⟩ } => T == "builtin_function_or_method"
  | _ => false
theorem KpE.sbm (XO : SXOk X) {a : Addr} (h : isSbm X.K a = true) : KpE X (.obj (.ref a)) := fun fz kp kg ρ led s fv R hv => by
  simp only [VRel] at hv; subst hv
  unfold isSbm at h
  split at h
  · rename_i T vs e
    have hT : T = "builtin_function_or_method" := by simpa using h
    subst hT
    exact ⟨.machine, .inr (.inl rfl), (Looks.ld (part := none) (R.kin XO _ _ e)).andThen .now⟩
  · cases h
def evKeep (X : SX) : MVal → Bool
  | .obj (.builtin _) => true
  | .obj (.type _) => true
  | .obj (.ref a) => keepIn X.K (.ref a) || isSbm X.K a
  | .obj v => keepIn X.K v
  | .bm .. => true
  | .clo .. => true
  | _ => false
theorem evKeep_ok (XO : SXOk X) {f : MVal} (h : evKeep X f = true) : KpE X f := by
  cases f with
  | obj v =>
    cases v
    case builtin => exact .blt
    case type => exact .type
    case ref a =>
      unfold evKeep at h
      rw [Bool.or_eq_true] at h
      rcases h with h | h
      · exact .stat XO h
      · exact .sbm XO h
    all_goals exact .stat XO h
  | bm => exact .bm
  | clo => exact .clo
  | _ => cases h

def baseBad : Expr → Bool
  | .Call (.Name id _) [] [] _ => id == ("super" : Str)
  | _ => false
theorem base_ok {o : Expr} {attr : Str} {env : Env} {t : Sem Value} (h : baseBad o = false) : attributeBase o attr env t = t := by
  unfold attributeBase
  split
  · rename_i id p pos
    have hb : (id == ("super" : Str)) = false := by simpa [baseBad] using h
    have e : (id != ("super" : Str)) = true := by unfold bne; rw [hb]; rfl
    simp [e]
  · rfl

def pick (b : Bool) (w : Wk) : Option (Bool × Wk) :=
  match w.o with
  | .b b' :: o => some (b', ⟨o, (b = b') :: w.p⟩)
  | .a :: o => match b with
    | true => some (true, ⟨o, w.p⟩)
    | false => some (false, ⟨o, w.p⟩)
  | _ => match b with
    | true => some (true, w)
    | false => some (false, w)
theorem pick_ok {b b' : Bool} (h : pick b w = some (b', w')) (a : AllP w'.p) : AllP w.p ∧ b = b' := by
  unfold pick at h
  split at h
  · cases h; exact ⟨a.2, a.1⟩
  · cases b <;> (cases h; exact ⟨a, rfl⟩)
  · cases b <;> (cases h; exact ⟨a, rfl⟩)

def evAllT (r : Ev) (c : Cx) (op : BoolOp) : List Expr → St → Wk → Option (Bool × St × Wk)
  | [], st, w => match op with
    | .And => some (true, st, w)
    | .Or => some (false, st, w)
  | e :: es, st, w => (r.T c e st w).bind fun (b, st, w) => match op, b with
    | .And, false => some (false, st, w)
    | .Or, true => some (true, st, w)
    | _, _ => evAllT r c op es st w
theorem evAllT_ok (R : EvOk X d r) {op : BoolOp} : ∀ {es : List Expr} {st st' : St} {w w' : Wk} {b : Bool}, evAllT r c op es st w = some (b, st', w') → AllP w'.p → AllP w.p ∧ ∀ env, Is env c → AllT X env d op es st b st' := by
  intro es
  induction es with
  | nil =>
    intro st st' w w' b h a
    cases op <;> (cases h; first | exact ⟨a, fun env I => .andNil⟩ | exact ⟨a, fun env I => .orNil⟩)
  | cons e es ih =>
    intro st st' w w' b h a
    unfold evAllT at h
    obtain ⟨⟨b1, s1, w1⟩, h1, h⟩ := bind_some h
    cases op <;> cases b1 <;> dsimp only at h
    · cases h; obtain ⟨a0, r1⟩ := R.T h1 a; exact ⟨a0, fun env I => .cons (r1 env I) (.andF rfl)⟩
    · obtain ⟨a1, r2⟩ := ih h a; obtain ⟨a0, r1⟩ := R.T h1 a1; exact ⟨a0, fun env I => .cons (r1 env I) (.andT rfl (r2 env I))⟩
    · obtain ⟨a1, r2⟩ := ih h a; obtain ⟨a0, r1⟩ := R.T h1 a1; exact ⟨a0, fun env I => .cons (r1 env I) (.orF rfl (r2 env I))⟩
    · cases h; obtain ⟨a0, r1⟩ := R.T h1 a; exact ⟨a0, fun env I => .cons (r1 env I) (.orT rfl)⟩
end
end Mine
end
section
open PySem PySem.W PySem.Calls PyProof.Rows
set_option linter.all false
set_option maxRecDepth 100000
namespace Mine
section
variable {X : SX} {G : Gt} {P : Pr} {r : Ev} {env : Env} {c : Cx} {d : Nat} {st st' st₁ st₂ : St} {w w' w₁ w₂ : Wk}

def isSlice : Expr → Bool
  | .Slice .. => true
  | _ => false
def isName : Expr → Bool
  | .Name .. => true
  | _ => false
theorem sub_ok {i : Expr} (h : isSlice i = false) : ∀ o j, subscripted i false o j = operate [o, j] (getItem o j) := by
  intro o j
  cases i <;> first | rfl | cases h
theorem go_ok {e : Expr} (h : isName e = true) : ∀ o r, letTemporaryGo e o r = pure () := by
  intro o r
  cases e <;> first | rfl | cases h
def isSet : Expr → Bool
  | .Set .. => true
  | _ => false
theorem fold_ok {e : Expr} {env : Env} (h : isSet e = false) : ∀ x, foldedSetIterable e env x = pure x := by
  intro x
  cases e <;> first | rfl | cases h

-- tests of a comprehension
def evTests (r : Ev) (c : Cx) : List Expr → St → Wk → Option (Bool × St × Wk)
  | [], st, w => some (true, st, w)
  | [e], st, w => r.T c e st w
  | _, _, _ => none
theorem evTests_ok (R : EvOk X d r) {es : List Expr} {b : Bool} (h : evTests r c es st w = some (b, st', w')) (a : AllP w'.p) : AllP w.p ∧ ∀ env, Is env c → TestsE X env d es st b st' := by
  unfold evTests at h
  split at h
  · cases h; exact ⟨a, fun env I => .nil⟩
  · obtain ⟨a0, r1⟩ := R.T h a; exact ⟨a0, fun env I => .one (r1 env I)⟩
  · cases h
def evCL (r : Ev) (c : Cx) (target : Expr) (ifs : List Expr) (elt : Expr) : List MVal → St → Wk → Option (List MVal × St × Wk)
  | [], st, w => some ([], st, w)
  | x :: xs, st, w => (r.A c target x st w).bind fun (s1, w) => (evTests r c ifs s1 w).bind fun (b, s2, w) => match b with
    | true => (r.E c elt s2 w).bind fun (y, s3, w) => (evCL r c target ifs elt xs s3 w).bind fun (ys, s4, w) => some (y :: ys, s4, w)
    | false => evCL r c target ifs elt xs s2 w
theorem evCL_ok (R : EvOk X d r) {target elt : Expr} {ifs : List Expr} : ∀ {xs : List MVal} {st st' : St} {w w' : Wk} {ys : List MVal}, evCL r c target ifs elt xs st w = some (ys, st', w') → AllP w'.p → AllP w.p ∧ ∀ env, Is env c → CompE X env d target ifs elt xs st ys st' := by
  intro xs
  induction xs with
  | nil => intro st st' w w' ys h a; cases h; exact ⟨a, fun env I => .nil⟩
  | cons x xs ih =>
    intro st st' w w' ys h a
    unfold evCL at h
    obtain ⟨⟨s1, w1⟩, h1, h⟩ := bind_some h
    obtain ⟨⟨b, s2, w2⟩, h2, h⟩ := bind_some h
    cases b with
    | true =>
      obtain ⟨⟨y, s3, w3⟩, h3, h⟩ := bind_some h
      obtain ⟨⟨zs, s4, w4⟩, h4, h⟩ := bind_some h
      cases h
      obtain ⟨a3, r4⟩ := ih h4 a
      obtain ⟨a2, r3⟩ := R.E h3 a3
      obtain ⟨a1, r2⟩ := evTests_ok R h2 a2
      obtain ⟨a0, r1⟩ := R.A h1 a1
      exact ⟨a0, fun env I => .elt (r1 env I) (r2 env I) (r3 env I) (r4 env I)⟩
    | false =>
      obtain ⟨a2, r4⟩ := ih h a
      obtain ⟨a1, r2⟩ := evTests_ok R h2 a2
      obtain ⟨a0, r1⟩ := R.A h1 a1
      exact ⟨a0, fun env I => .skip (r1 env I) (r2 env I) (r4 env I)⟩

theorem EvE.neg {e : Expr} {pos : Pos} {n : Int} (h : EvE X env d e st (.int n) st') : EvE X env d (.UnaryOp .USub e pos) st (.int (-n)) st' := fun A fz kp kg ρ s ok R Q E q => by
  rw [arm_eval_UnaryOp]
  refine wpAny_bind (h A fz kp kg ρ s ok R _ _ fun fz₁ ρ₁ va s₁ R₁ g₁ r₁ => wpAny_bind (wpAny_standAt (wpAny_holding ?_)))
  simp only [VRel] at r₁
  obtain ⟨t, rfl⟩ := r₁
  exact neg_int (q _ _ _ _ (R₁.keep (tk := s₁.toks + 1) fun _ _ e => e) g₁ (by simp only [VRel]; exact ⟨_, rfl⟩))

/-- the items, what is left behind -/
def evComp (P : Pr) (r : Ev) (c : Cx) (elt target iter : Expr) (ifs : List Expr) (scope : Scope) (st : St) (w : Wk) : Option (List MVal × List MObj × St × Wk) :=
  if (isSet iter || !(scope.kind == .function) || !(scope.names.all fun x => x.2 != .cell) || !(scope.names.all fun x => x.2 != .local || decide (scope.names.lookup x.1 = some .local))) = true then none else
  (r.E c iter st w).bind fun (v, s1, w) => (csOf st.cells scope.names []).bind fun cs => match w.o with
    | .l ys led' :: o => (P.itr v s1 ⟨o, w.p⟩).bind fun (xs, w) =>
      some (ys, led', s1, (w.say (xs.length ≤ 10000000)).say (∀ env, Is env (c.comp scope) → ∃ st₂, CompE X env d target ifs elt xs ⟨[], cs, s1.led⟩ ys st₂ ∧ st₂.led = led'))
    | _ => (P.itr v s1 w).bind fun (xs, w) => (evCL r (c.comp scope) target ifs elt xs ⟨[], cs, s1.led⟩ w).bind fun (ys, s2, w) =>
      some (ys, s2.led, s1, w.say (xs.length ≤ 10000000))
theorem evComp_ok (R : EvOk X d r) (PO : PrOk X d P) {elt target iter : Expr} {ifs : List Expr} {scope : Scope} {ys : List MVal} {led' : List MObj} (h : evComp (X := X) (d := d) P r c elt target iter ifs scope st w = some (ys, led', st₁, w')) (a : AllP w'.p) :
    AllP w.p ∧ ∃ xs cs v, (∀ env, Is env c → EvE X env d iter st v st₁ ∧ IterE X env d v xs st₁ ∧ ∀ C cl, ∃ st₂, CompE X (compEnvC scope cl C env) d target ifs elt xs ⟨[], cs, st₁.led⟩ ys st₂ ∧ st₂.led = led') ∧ csOf st.cells scope.names [] = some cs ∧ xs.length ≤ 10000000 ∧
      scope.kind = .function ∧ (scope.names.all fun x => x.2 != .cell) = true ∧ (scope.names.all fun x => x.2 != .local || decide (scope.names.lookup x.1 = some .local)) = true ∧ isSet iter = false := by
  unfold evComp at h
  split at h
  · cases h
  · rename_i hc
    simp only [Bool.or_eq_true, not_or, Bool.not_eq_true, Bool.not_eq_false', beq_iff_eq] at hc
    obtain ⟨⟨⟨c1, c2⟩, c3⟩, c4⟩ := hc
    obtain ⟨⟨v, s1, w1⟩, h1, h⟩ := bind_some h
    obtain ⟨cs, h2, h⟩ := bind_some h
    dsimp only at h2 h
    split at h
    · rename_i ys' l' o e
      obtain ⟨⟨xs, w2⟩, h3, h⟩ := bind_some h
      cases h
      obtain ⟨a, ac⟩ := a.say
      obtain ⟨a, al⟩ := a.say
      obtain ⟨a2, r2⟩ := PO.itr h3 a
      obtain ⟨a1, r1⟩ := R.E h1 a2
      exact ⟨a1, xs, cs, v, fun env I => ⟨r1 env I, r2 env I.ok, fun C cl => ac _ (I.comp c2 cl C)⟩, h2, al, c2, c3, c4, c1⟩
    · obtain ⟨⟨xs, w2⟩, h3, h⟩ := bind_some h
      obtain ⟨⟨zs, s2, w3⟩, h4, h⟩ := bind_some h
      cases h
      obtain ⟨a, al⟩ := a.say
      obtain ⟨a3, r3⟩ := evCL_ok R h4 a
      obtain ⟨a2, r2⟩ := PO.itr h3 a3
      obtain ⟨a1, r1⟩ := R.E h1 a2
      exact ⟨a1, xs, cs, v, fun env I => ⟨r1 env I, r2 env I.ok, fun C cl => ⟨_, r3 _ (I.comp c2 cl C), rfl⟩⟩, h2, al, c2, c3, c4, c1⟩

-- the parts of a slice
def evPart (r : Ev) (c : Cx) : Option Expr → St → Wk → Option (Option Int × St × Wk)
  | none, st, w => some (none, st, w)
  | some e, st, w => (r.E c e st w).bind fun (v, st, w) => match v with
    | .int k => some (some k, st, w)
    | .none => none
    | _ => none
theorem evPart_ok (R : EvOk X d r) {e : Option Expr} {k : Option Int} (h : evPart r c e st w = some (k, st', w')) (a : AllP w'.p) : AllP w.p ∧ ∀ env, Is env c → PtE X env d e st k st' := by
  unfold evPart at h
  split at h
  · cases h; exact ⟨a, fun env I => .none⟩
  · obtain ⟨⟨v, s1, w1⟩, h1, h⟩ := bind_some h
    dsimp only at h
    split at h
    · cases h
      obtain ⟨a0, r1⟩ := R.E h1 a
      exact ⟨a0, fun env I => .some (r1 env I)⟩
    · cases h
    · cases h

def isAttr : Expr → Bool
  | .Attribute .. => true
  | _ => false
theorem call_ok {func : Expr} {args : List Expr} {kws : List Keyword} {pos : Pos} {env : Env} (h : isAttr func = false) : eval (.Call func args kws pos) env = (do callWith pos (← eval func env) [] (backTo pos (starEach args env)) (backToKw pos (keywordEach kws env))) := by
  cases func <;> first | rfl | cases h
theorem attr_ok {value : Expr} {name : Str} {pos : Pos} {env : Env} (h : baseBad value = false) : eval (.Attribute value name pos) env = (do
      let o ← eval value env
      standAt pos.atName
      let r ← holding [o] (getAttr o name true)
      letTemporaryGo value o r
      pure r) := by
  conv => lhs; unfold eval
  rw [base_ok h]

def listFroz (es : List Expr) (w : Wk) : Bool × Wk :=
  match w.o with
  | .m b :: o => (!b, ⟨o, w.p⟩)
  | _ => (!es.isEmpty, w)
theorem listFroz_p {es : List Expr} : (listFroz es w).2.p = w.p := by
  unfold listFroz; split <;> rfl

def evCall (P : Pr) (r : Ev) (X : SX) (c : Cx) (func : Expr) (args : List Expr) (kws : List Keyword) (pos : Pos) (st : St) (w : Wk) : Option (MVal × St × Wk) :=
  match func with
  | .Attribute o name apos =>
    if (baseBad o || decide (28 ≤ args.length + kws.length) || !(apos.endLine == pos.line)) = true then none else
    (r.E c o st w).bind fun (a, st, w) => (P.mth a name st w).bind fun (f, fs, w) => if evKeep X f = true then
      (evL r c args st w).bind fun (vs, st, w) => (evK r c kws st w).bind fun (ks, st, w) => P.app f (fs ++ vs) ks st w else none
  | func => (r.E c func st w).bind fun (f, st, w) => if evKeep X f = true then
      (evL r c args st w).bind fun (vs, st, w) => (evK r c kws st w).bind fun (ks, st, w) => P.app f vs ks st w else none

def evE0 (P : Pr) (r : Ev) (X : SX) (d : Nat) (G : Gt) (c : Cx) : Expr → St → Wk → Option (MVal × St × Wk)
  | .Constant k _ _, st, w => match k with
    | .none => some (.none, st, w)
    | .bool b => some (.bool b, st, w)
    | .int i => some (.int i, st, w)
    | .str x => some (.str x, st, w)
    | _ => none
  | .Name x _, st, w => (evName G c x st).bind fun v => some (v, st, w)
  | .BinOp l op e _, st, w => (r.E c l st w).bind fun (a, st, w) => (r.E c e st w).bind fun (b, st, w) => P.bin op a b st w
  | .UnaryOp .USub e _, st, w => (r.E c e st w).bind fun (a, st, w) => match a with
    | .int n => some (.int (-n), st, w)
    | _ => none
  | .Compare l ops es _, st, w => match ops, es with
    | [op], [e] => if behindInMarks op e = true then none else
      (r.E c l st w).bind fun (a, st, w) => (r.E c e st w).bind fun (b, st, w) => (P.cmp op a b st w).bind fun (b, w) => some (.bool b, st, w)
    | _, _ => none
  | .IfExp t b o _, st, w => (r.T c t st w).bind fun (x, st, w) => match x with
    | true => r.E c b st w
    | false => r.E c o st w
  | .Tuple es _ _, st, w => (evL r c es st w).bind fun (vs, st, w) => if vs.length ≤ 10000000 then some (.tup vs, st, w) else none
  | .List es _, st, w => match listFroz es w with
    | (true, w) => (evL r c es st w).bind fun (vs, st, w) => if vs.length ≤ 10000000 then some (.lst vs, st, w) else none
    | (false, w) => (evL r c es st w).bind fun (vs, st, w) => if vs.length ≤ 10000000 then some (.ref st.led.length, st.wled (st.led ++ [.lst vs]), w) else none
  | .Dict ks vs _, st, w => match ks, vs with
    | [], [] => some (.ref st.led.length, st.wled (st.led ++ [.dct []]), w)
    | _, _ => none
  | .ListComp elt gens scope _, st, w => match gens with
    | [⟨target, iter, ifs, k⟩] => if k = 0 then (evComp (X := X) (d := d) P r c elt target iter ifs scope st w).bind fun (ys, led', st, w) => some (.lst ys, st.wled led', w) else none
    | _ => none
  | .Call func args kws pos, st, w => evCall P r X c func args kws pos st w
  | .Attribute o name _, st, w => if baseBad o = true then none else (r.E c o st w).bind fun (a, st, w) => P.att a name st w
  | .Subscript v i _, st, w => match i with
    | .Slice lo hi step _ => if (!isName v || step.isSome) = true then none else
      (r.E c v st w).bind fun (a, st, w) => (evPart r c lo st w).bind fun (l, st, w) => (evPart r c hi st w).bind fun (h, st, w) => match a with
        | .str x => match w.o with
          | .i j (.int k) :: o => some (.str ⟨#[k.toNat]⟩, st, (((Wk.say ⟨o, w.p⟩ (x.length ≤ 10000000)).say (l = some (j : Int))).say (h = some ((j : Int) + 1))).say (x.cps[j]? = some k.toNat))
          | _ => some (.str (sliceS x l h), st, w.say (x.length ≤ 10000000))
        | .lst vs => some (.lst (sliceL vs l h), st, w.say (vs.length ≤ 10000000))
        | _ => none
    | i => if isSlice i = true then none else (r.E c v st w).bind fun (a, st, w) => (r.E c i st w).bind fun (b, st, w) => (P.itm a b st w).bind fun (v, w) => some (v, st, w)
  | _, _, _ => none

theorem evCall_ok (XO : SXOk X) (R : EvOk X d r) (PO : PrOk X d P) {func : Expr} {args : List Expr} {kws : List Keyword} {pos : Pos} {v : MVal} (h : evCall P r X c func args kws pos st w = some (v, st', w')) (a : AllP w'.p) :
    AllP w.p ∧ ∀ env, Is env c → EvE X env d (.Call func args kws pos) st v st' := by
  unfold evCall at h
  split at h
  · rename_i o name apos
    split at h
    · cases h
    · rename_i hc
      simp only [Bool.or_eq_true, not_or, Bool.not_eq_true, decide_eq_false_iff_not, Bool.not_eq_false'] at hc
      obtain ⟨⟨c1, c2⟩, c3⟩ := hc
      obtain ⟨⟨x, s1, w1⟩, h1, h⟩ := bind_some h
      obtain ⟨⟨f, fs, w2⟩, h2, h⟩ := bind_some h
      dsimp only at h2 h
      split at h
      · rename_i hk
        obtain ⟨⟨vs, s3, w3⟩, h3, h⟩ := bind_some h
        obtain ⟨⟨ks, s4, w4⟩, h4, h⟩ := bind_some h
        obtain ⟨a4, r5⟩ := PO.app h a
        obtain ⟨a3, r4⟩ := evK_ok R h4 a4
        obtain ⟨a2, r3⟩ := evL_ok R h3 a3
        obtain ⟨a1, r2⟩ := PO.mth h2 a2
        obtain ⟨a0, r1⟩ := R.E h1 a1
        refine ⟨a0, fun env I => EvE.meth (r1 env I) (r2 env I.ok) (evKeep_ok XO hk) (r3 env I pos) (r4 env I pos) (r5 env I.ok) (base_ok c1) ?_ c3 (evL_star R h3 pos env).1 (evK_some h4 pos env).1 (evK_some h4 pos env).2⟩
        unfold methodCallForm
        rw [(evL_star R h3 pos env).2, (evK_some h4 pos env).1]
        simp only [Bool.and_self, Bool.true_and, decide_eq_true_eq]
        split <;> omega
      · cases h
  · rename_i hn
    have hn' : isAttr func = false := by
      cases func <;> first | rfl | exact absurd rfl (hn _ _ _)
    obtain ⟨⟨f, s1, w1⟩, h1, h⟩ := bind_some h
    dsimp only at h
    split at h
    · rename_i hk
      obtain ⟨⟨vs, s3, w3⟩, h3, h⟩ := bind_some h
      obtain ⟨⟨ks, s4, w4⟩, h4, h⟩ := bind_some h
      obtain ⟨a4, r5⟩ := PO.app h a
      obtain ⟨a3, r4⟩ := evK_ok R h4 a4
      obtain ⟨a2, r3⟩ := evL_ok R h3 a3
      obtain ⟨a0, r1⟩ := R.E h1 a2
      exact ⟨a0, fun env I => EvE.call (r1 env I) (evKeep_ok XO hk) (r3 env I pos) (r4 env I pos) (r5 env I.ok) (call_ok hn') (evL_star R h3 pos env).1 (evK_some h4 pos env).1 (evK_some h4 pos env).2⟩
    · cases h

theorem evE0_ok (XO : SXOk X) (GO : GtOk X G) (R : EvOk X d r) (PO : PrOk X d P) {e : Expr} {v : MVal} (h : evE0 P r X d G c e st w = some (v, st', w')) (a : AllP w'.p) : AllP w.p ∧ ∀ env, Is env c → EvE X env d e st v st' := by
  unfold evE0 at h
  split at h
  · split at h <;> first
      | (cases h; first | exact ⟨a, fun env I => .cnone⟩ | exact ⟨a, fun env I => .cbool⟩ | exact ⟨a, fun env I => .cint⟩ | exact ⟨a, fun env I => .cstr⟩)
      | cases h
  · obtain ⟨u, h1, h⟩ := bind_some h
    cases h
    exact ⟨a, fun env I => .name (evName_ok XO GO h1 I).1 (evName_ok (d := d) XO GO h1 I).2⟩
  · obtain ⟨⟨x, s1, w1⟩, h1, h⟩ := bind_some h
    obtain ⟨⟨y, s2, w2⟩, h2, h⟩ := bind_some h
    obtain ⟨a2, r3⟩ := PO.bin h a
    obtain ⟨a1, r2⟩ := R.E h2 a2
    obtain ⟨a0, r1⟩ := R.E h1 a1
    exact ⟨a0, fun env I => .bin (r1 env I) (r2 env I) (r3 env I.ok)⟩
  · obtain ⟨⟨x, s1, w1⟩, h1, h⟩ := bind_some h
    dsimp only at h
    split at h
    · cases h
      obtain ⟨a0, r1⟩ := R.E h1 a
      exact ⟨a0, fun env I => .neg (r1 env I)⟩
    · cases h
  · split at h
    · split at h
      · cases h
      · rename_i hm
        obtain ⟨⟨x, s1, w1⟩, h1, h⟩ := bind_some h
        obtain ⟨⟨y, s2, w2⟩, h2, h⟩ := bind_some h
        obtain ⟨⟨b, w3⟩, h3, h⟩ := bind_some h
        cases h
        obtain ⟨a2, r3⟩ := PO.cmp h3 a
        obtain ⟨a1, r2⟩ := R.E h2 a2
        obtain ⟨a0, r1⟩ := R.E h1 a1
        exact ⟨a0, fun env I => .cmp (r1 env I) (r2 env I) (r3 env I.ok) (by simpa using hm)⟩
    · cases h
  · obtain ⟨⟨x, s1, w1⟩, h1, h⟩ := bind_some h
    cases x <;> dsimp only at h
    · obtain ⟨a1, r2⟩ := R.E h a
      obtain ⟨a0, r1⟩ := R.T h1 a1
      exact ⟨a0, fun env I => .ife (r1 env I) (r2 env I)⟩
    · obtain ⟨a1, r2⟩ := R.E h a
      obtain ⟨a0, r1⟩ := R.T h1 a1
      exact ⟨a0, fun env I => .ife (r1 env I) (r2 env I)⟩
  · obtain ⟨⟨vs, s1, w1⟩, h1, h⟩ := bind_some h
    dsimp only at h
    split at h
    · rename_i hz
      cases h
      obtain ⟨a0, r1⟩ := evL_ok R h1 a
      exact ⟨a0, fun env I => .tup (r1 env I _) hz⟩
    · cases h
  · split at h
    · rename_i w1 e1
      obtain ⟨⟨vs, s1, w2⟩, h1, h⟩ := bind_some h
      dsimp only at h
      split at h
      · rename_i hz
        cases h
        obtain ⟨a0, r1⟩ := evL_ok R h1 a
        refine ⟨?_, fun env I => .lst (r1 env I _) hz⟩
        have := listFroz_p (es := ‹List Expr›) (w := w)
        rw [e1] at this; exact this ▸ a0
      · cases h
    · rename_i w1 e1
      obtain ⟨⟨vs, s1, w2⟩, h1, h⟩ := bind_some h
      dsimp only at h
      split at h
      · rename_i hz
        cases h
        obtain ⟨a0, r1⟩ := evL_ok R h1 a
        refine ⟨?_, fun env I => .lstM (r1 env I _) hz⟩
        have := listFroz_p (es := ‹List Expr›) (w := w)
        rw [e1] at this; exact this ▸ a0
      · cases h
  · split at h
    · cases h; exact ⟨a, fun env I => .dictE⟩
    · cases h
  · split at h
    · split at h
      · rename_i hk
        subst hk
        obtain ⟨⟨ys, led', s1, w1⟩, h1, h⟩ := bind_some h
        cases h
        obtain ⟨a0, xs, cs, u, k1, k2, k3, k4, k5, k6, k7⟩ := evComp_ok R PO h1 a
        exact ⟨a0, fun env I => .listcomp I.ok (k1 env I).1 (k1 env I).2.1 k2 (k1 env I).2.2 k3 k4 k5 k6 (fold_ok k7)⟩
      · cases h
    · cases h
  · exact evCall_ok XO R PO h a
  · split at h
    · cases h
    · rename_i hb
      obtain ⟨⟨x, s1, w1⟩, h1, h⟩ := bind_some h
      obtain ⟨a1, r2⟩ := PO.att h a
      obtain ⟨a0, r1⟩ := R.E h1 a1
      exact ⟨a0, fun env I => .attr (r1 env I) (r2 env I.ok) (attr_ok (by simpa using hb))⟩
  · split at h
    · split at h
      · cases h
      · rename_i hc
        simp only [Bool.or_eq_true, not_or, Bool.not_eq_true, Bool.not_eq_false', Option.isSome_eq_false_iff, Option.isNone_iff_eq_none] at hc
        obtain ⟨hn, hs⟩ := hc
        subst hs
        obtain ⟨⟨x, s1, w1⟩, h1, h⟩ := bind_some h
        obtain ⟨⟨lo, s2, w2⟩, h2, h⟩ := bind_some h
        obtain ⟨⟨hi, s3, w3⟩, h3, h⟩ := bind_some h
        dsimp only at h
        split at h
        · split at h
          · cases h
            obtain ⟨a3, q1⟩ := a.say
            obtain ⟨a3, q2⟩ := a3.say
            obtain ⟨a3, q3⟩ := a3.say
            obtain ⟨a3, hz⟩ := a3.say
            obtain ⟨a2, r3⟩ := evPart_ok R h3 a3
            obtain ⟨a1, r2⟩ := evPart_ok R h2 a2
            obtain ⟨a0, r1⟩ := R.E h1 a1
            refine ⟨a0, fun env I => ?_⟩
            refine EvE.cast (EvE.subS (r1 env I) (r2 env I) (r3 env I) hz (go_ok hn)) ?_
            rw [q3, q2, sliceS_one q1]
          · cases h
            obtain ⟨a3, hz⟩ := a.say
            obtain ⟨a2, r3⟩ := evPart_ok R h3 a3
            obtain ⟨a1, r2⟩ := evPart_ok R h2 a2
            obtain ⟨a0, r1⟩ := R.E h1 a1
            exact ⟨a0, fun env I => .subS (r1 env I) (r2 env I) (r3 env I) hz (go_ok hn)⟩
        · cases h
          obtain ⟨a3, hz⟩ := a.say
          obtain ⟨a2, r3⟩ := evPart_ok R h3 a3
          obtain ⟨a1, r2⟩ := evPart_ok R h2 a2
          obtain ⟨a0, r1⟩ := R.E h1 a1
          exact ⟨a0, fun env I => .subL (r1 env I) (r2 env I) (r3 env I) hz (go_ok hn)⟩
        · cases h
    · split at h
      · cases h
      · rename_i hs
        obtain ⟨⟨x, s1, w1⟩, h1, h⟩ := bind_some h
        obtain ⟨⟨y, s2, w2⟩, h2, h⟩ := bind_some h
        obtain ⟨⟨u, w3⟩, h3, h⟩ := bind_some h
        cases h
        obtain ⟨a2, r3⟩ := PO.itm h3 a
        obtain ⟨a1, r2⟩ := R.E h2 a2
        obtain ⟨a0, r1⟩ := R.E h1 a1
        exact ⟨a0, fun env I => .sub (r1 env I) (r2 env I) (r3 env I.ok) (sub_ok (by simpa using hs))⟩
  · cases h

/-- an expression; or what of it is told -/
def evE (P : Pr) (r : Ev) (X : SX) (d : Nat) (G : Gt) (c : Cx) (e : Expr) (st : St) (w : Wk) : Option (MVal × St × Wk) :=
  match w.o with
  | .e p v st' :: o => if e.pos = p then some (v, st', Wk.say ⟨o, w.p⟩ (∀ env, Is env c → EvE X env d e st v st')) else evE0 P r X d G c e st w
  | _ => evE0 P r X d G c e st w
theorem evE_ok (XO : SXOk X) (GO : GtOk X G) (R : EvOk X d r) (PO : PrOk X d P) {e : Expr} {v : MVal} (h : evE P r X d G c e st w = some (v, st', w')) (a : AllP w'.p) : AllP w.p ∧ ∀ env, Is env c → EvE X env d e st v st' := by
  unfold evE at h
  split at h
  · split at h
    · cases h; exact a.say
    · exact evE0_ok XO GO R PO h a
  · exact evE0_ok XO GO R PO h a

def plainT : Expr → Bool
  | .UnaryOp .Not _ _ => false
  | .BoolOp .. => false
  | .IfExp .. => false
  | .Compare .. => false
  | _ => true
theorem plainT_ok {e : Expr} {env : Env} (h : plainT e = true) : isTrue e env (eval e env) = (do let v ← eval e env; standAt e.pos; holding [v] (truthy v)) := by
  cases e <;> first | rfl | cases h | skip
  rename_i op x pos
  cases op <;> first | rfl | cases h
def evT (P : Pr) (r : Ev) (c : Cx) : Expr → St → Wk → Option (Bool × St × Wk)
  | .UnaryOp .Not x _, st, w => (r.T c x st w).bind fun (b, st, w) => some (!b, st, w)
  | .BoolOp op es _, st, w => evAllT r c op es st w
  | .Compare l ops es _, st, w => match ops, es with
    | [op], [e] => if behindInMarks op e = true then none else
      (r.E c l st w).bind fun (a, st, w) => (r.E c e st w).bind fun (b, st, w) => (P.cmp op a b st w).bind fun (b, w) => (pick b w).bind fun (b, w) => some (b, st, w)
    | _, _ => none
  | e, st, w => if plainT e = true then (r.E c e st w).bind fun (v, st, w) => (P.tru v st w).bind fun (b, w) => (pick b w).bind fun (b, w) => some (b, st, w) else none
theorem evT_ok (R : EvOk X d r) (PO : PrOk X d P) {e : Expr} {v : Bool} (h : evT P r c e st w = some (v, st', w')) (a : AllP w'.p) : AllP w.p ∧ ∀ env, Is env c → TsE X env d e st v st' := by
  unfold evT at h
  split at h
  · obtain ⟨⟨b, s1, w1⟩, h1, h⟩ := bind_some h
    cases h
    obtain ⟨a0, r1⟩ := R.T h1 a
    exact ⟨a0, fun env I => .not (r1 env I)⟩
  · obtain ⟨a0, r1⟩ := evAllT_ok R h a
    exact ⟨a0, fun env I => .bop (r1 env I)⟩
  · split at h
    · split at h
      · cases h
      · rename_i hm
        obtain ⟨⟨x, s1, w1⟩, h1, h⟩ := bind_some h
        obtain ⟨⟨y, s2, w2⟩, h2, h⟩ := bind_some h
        obtain ⟨⟨b, w3⟩, h3, h⟩ := bind_some h
        obtain ⟨⟨b', w4⟩, h4, h⟩ := bind_some h
        cases h
        obtain ⟨a3, e⟩ := pick_ok h4 a
        subst e
        obtain ⟨a2, r3⟩ := PO.cmp h3 a3
        obtain ⟨a1, r2⟩ := R.E h2 a2
        obtain ⟨a0, r1⟩ := R.E h1 a1
        exact ⟨a0, fun env I => .cmp (r1 env I) (r2 env I) (r3 env I.ok) (by simpa using hm)⟩
    · cases h
  · split at h
    · rename_i hp
      obtain ⟨⟨x, s1, w1⟩, h1, h⟩ := bind_some h
      obtain ⟨⟨b, w3⟩, h3, h⟩ := bind_some h
      obtain ⟨⟨b', w4⟩, h4, h⟩ := bind_some h
      cases h
      obtain ⟨a3, e⟩ := pick_ok h4 a
      subst e
      obtain ⟨a2, r3⟩ := PO.tru h3 a3
      obtain ⟨a0, r1⟩ := R.E h1 a2
      exact ⟨a0, fun env I => .val (r1 env I) (r3 env I.ok) (plainT_ok hp)⟩
    · cases h
end
end Mine
end
section
open PySem PySem.W PySem.Calls PyProof.Rows
set_option linter.all false
set_option maxRecDepth 100000
namespace Mine
section
variable {X : SX} {G : Gt} {P : Pr} {r : Ev} {env : Env} {c : Cx} {d : Nat} {st st' st₁ st₂ : St} {w w' w₁ w₂ : Wk}

-- stores
def evAs (r : Ev) (c : Cx) : List Expr → List MVal → St → Wk → Option (St × Wk)
  | [], [], st, w => some (st, w)
  | e :: es, v :: vs, st, w => if isStar e = true then none else (r.A c e v st w).bind fun (st, w) => evAs r c es vs st w
  | _, _, _, _ => none
theorem evAs_ok (R : EvOk X d r) : ∀ {es : List Expr} {vs : List MVal} {st st' : St} {w w' : Wk}, evAs r c es vs st w = some (st', w') → AllP w'.p → AllP w.p ∧ es.length = vs.length ∧ (∀ env, assignEach es env = es.map (fun t => (false, PySem.assign t env))) ∧ ∀ env, Is env c → StoresE X env d es vs st st' := by
  intro es
  induction es with
  | nil =>
    intro vs st st' w w' h a
    cases vs with
    | nil => cases h; exact ⟨a, rfl, fun _ => rfl, fun env I => .nil⟩
    | cons => cases h
  | cons e es ih =>
    intro vs st st' w w' h a
    cases vs with
    | nil => cases h
    | cons v vs =>
      unfold evAs at h
      split at h
      · cases h
      · rename_i hs
        obtain ⟨⟨s1, w1⟩, h1, h⟩ := bind_some h
        obtain ⟨a1, e1, e2, r2⟩ := ih h a
        obtain ⟨a0, r1⟩ := R.A h1 a1
        refine ⟨a0, by simp [e1], fun env => ?_, fun env I => .cons (r1 env I) (r2 env I)⟩
        rw [assignEach_no (by simpa using hs), e2]; rfl

def evA (r : Ev) (X : SX) (c : Cx) : Expr → MVal → St → Wk → Option (St × Wk)
  | .Name x _, v, st, w => (evBind c x v st).bind fun st => some (st, w)
  | .Tuple es _ _, v, st, w => match v with
    | .tup vs => evAs r c es vs st w
    | _ => none
  | .Attribute o name _, v, st, w => (r.E c o st w).bind fun (a, st, w) => match a with
    | .insr C i => match st.led[i]? with
      | some (.dct ds) => if ds.length < 900 ∧ findIn X.K (.ref C) "__setattr__" = some (some (.builtin "object.__setattr__")) ∧ plainOver X.K C = true ∧ takerIn X.K C name = some none ∧ hasDictIn X.K C = true then
          some (⟨st.loc, st.cells, st.led.set i (.dct (setA name v ds))⟩, w) else none
      | _ => none
    | _ => none
  | _, _, _, _ => none
theorem evA_ok (XO : SXOk X) (R : EvOk X d r) {e : Expr} {v : MVal} (h : evA r X c e v st w = some (st', w')) (a : AllP w'.p) : AllP w.p ∧ ∀ env, Is env c → StoreE X env d e v st st' := by
  unfold evA at h
  split at h
  · obtain ⟨s1, h1, h⟩ := bind_some h
    cases h
    exact ⟨a, fun env I => .name (evBind_ok h1 I)⟩
  · split at h
    · obtain ⟨a0, e1, e2, r1⟩ := evAs_ok R h a
      exact ⟨a0, fun env I => .tup (r1 env I) e1 (e2 env)⟩
    · cases h
  · obtain ⟨⟨x, s1, w1⟩, h1, h⟩ := bind_some h
    dsimp only at h
    split at h
    · split at h
      · rename_i hi
        split at h
        · rename_i hc
          obtain ⟨c1, c2, c3, c4, c5⟩ := hc
          cases h
          obtain ⟨a0, r1⟩ := R.E h1 a
          exact ⟨a0, fun env I => .attr XO (r1 env I) hi c1 c2 c3 c4 c5⟩
        · cases h
      · cases h
    · cases h
  · cases h

def evBinds (c : Cx) : List Str → List MVal → St → Option St
  | [], [], st => some st
  | x :: xs, v :: vs, st => (evBind c x v st).bind fun st => evBinds c xs vs st
  | _, _, _ => none
theorem evBinds_ok : ∀ {xs : List Str} {vs : List MVal} {st st' : St}, evBinds c xs vs st = some st' → ∀ env, Is env c → BindsE X env d xs vs st st' := by
  intro xs
  induction xs with
  | nil =>
    intro vs st st' h
    cases vs with
    | nil => cases h; exact fun env I => .nil
    | cons => cases h
  | cons x xs ih =>
    intro vs st st' h
    cases vs with
    | nil => cases h
    | cons v vs =>
      obtain ⟨s1, h1, h⟩ := bind_some h
      exact fun env I => .cons (evBind_ok h1 I) (ih h env I)

def swpT (ts vs : List Expr) (sc : Scope) : Option (Option (List Str)) :=
    if (!(ts.length == 2 || ts.length == 3) || vs.length != ts.length || sc.kind != .function) = true then some none else
    if (vs.any fun | .Starred .. => true | _ => false) = true then some none else
    let line := (ts.head?.map (·.pos.line)).getD 0
    let names := ts.filterMap fun
      | .Name id pos => if sc.names.lookup id == some .local && pos.line == line then some id else none
      | _ => none
    if (names.length != ts.length || names.eraseDups.length != names.length) = true then some none else
    if vs.all (foldedForSure 8) = true then some none else
    if vs.all (constantsAlone 8) = true then none else some (some names)
/-- which names are stored in exchanged order -/
def swp (targets : List Expr) (value : Expr) (sc : Scope) : Option (Option (List Str)) :=
  match targets with
  | [t] => match t with
    | .Tuple ts _ _ => match value with
      | .Tuple vs _ _ => swpT ts vs sc
      | _ => some none
    | .List ts _ => match value with
      | .Tuple vs _ _ => swpT ts vs sc
      | _ => some none
    | _ => some none
  | _ => none
theorem swp_ok {targets : List Expr} {value : Expr} {o : Option (List Str)} (h : swp targets value c.sc = some o) (I : Is env c) : swappedStores targets value env = pure o := by
  have hk : env.kindOf = fun x => c.sc.names.lookup x := funext I.kind
  have hb : env.blockKind = c.sc.kind := by
    unfold Env.blockKind
    rw [I.ok.k, ← I.sc, I.ok.k]; rfl
  have main : ∀ ts vs, swpT ts vs c.sc = some o → (∀ k p q k', swappedStores [.Tuple ts k p] (.Tuple vs k' q) env = pure o) ∧ (∀ p q k', swappedStores [.List ts p] (.Tuple vs k' q) env = pure o) := by
    intro ts vs h
    unfold swpT at h
    constructor
    all_goals
      intros
      unfold swappedStores
      dsimp only
      rw [hk, hb]
      split at h
      · rename_i h1; cases h; exact if_pos h1
      · rename_i h1
        refine (if_neg h1).trans ?_
        split at h
        · rename_i h2; cases h; exact if_pos h2
        · rename_i h2
          refine (if_neg h2).trans ?_
          dsimp only at h
          split at h
          · rename_i h3; cases h; exact if_pos h3
          · rename_i h3
            refine (if_neg h3).trans ?_
            split at h
            · rename_i h4; cases h; exact if_pos h4
            · rename_i h4
              refine (if_neg h4).trans ?_
              split at h
              · cases h
              · rename_i h5; cases h; exact if_neg h5
  cases targets with
  | nil => cases h <;> first | done | rfl
  | cons t ts =>
    cases ts with
    | cons t2 ts => cases t <;> (cases h <;> first | done | rfl)
    | nil =>
      cases t
      case Tuple ts k p =>
        cases value
        case Tuple vs k' q => exact (main _ _ h).1 ..
        all_goals (cases h <;> first | done | rfl)
      case List ts p =>
        cases value
        case Tuple vs k' q => exact (main _ _ h).2 ..
        all_goals (cases h <;> first | done | rfl)
      all_goals (cases h <;> first | done | rfl)

def isComp : Expr → Bool
  | .ListComp .. => true
  | .SetComp .. => true
  | .DictComp .. => true
  | _ => false
theorem comp_no {value : Expr} {t : Option Expr} {line : Nat} {env : Env} (h : isComp value = false) : swapsWith value t line env = pure false := by
  cases value <;> first | rfl | cases h

def evAssign (P : Pr) (r : Ev) (X : SX) (d : Nat) (c : Cx) (ts : List Expr) (value : Expr) (pos : Pos) (st : St) (w : Wk) : Option (St × Wk) :=
  match ts with
  | [t] => match value with
    | .ListComp elt gens scope vpos => match t, gens with
      | .Name y py, [⟨target, iter, ifs, k⟩] =>
        if k = 0 ∧ (c.sc.kind == .function && c.sc.names.lookup y == some .local && py.line == vpos.line && !(scope.names.any fun (n, k) => n == y && (k == .local || k == .cell))) = true then
          (evComp (X := X) (d := d) P r c elt target iter ifs scope st w).bind fun (ys, led', st, w) => (evBind c y (.lst ys) (st.wled led')).bind fun st => some (st, w)
        else none
      | _, _ => none
    | value => if (isComp value || isStar t) = true then none else (swp [t] value c.sc).bind fun o => match o with
      | none => (r.E c value st w).bind fun (v, st, w) => r.A c t v st w
      | some names => (r.E c value st w).bind fun (v, st, w) => match v with
        | .tup vs => if names.length = vs.length then (evBinds c names.reverse vs.reverse st).bind fun st => some (st, w) else none
        | _ => none
  | _ => none
theorem evAssign_ok (R : EvOk X d r) (PO : PrOk X d P) {ts : List Expr} {value : Expr} {pos : Pos} (h : evAssign P r X d c ts value pos st w = some (st', w')) (a : AllP w'.p) : AllP w.p ∧ ∀ env, Is env c → ExS X env d (.Assign ts value pos) st .next st' := by
  unfold evAssign at h
  split at h
  · split at h
    · split at h
      · split at h
        · rename_i hc
          obtain ⟨hk, hc⟩ := hc
          subst hk
          obtain ⟨⟨ys, led', s1, w1⟩, h1, h⟩ := bind_some h
          obtain ⟨s2, h2, h⟩ := bind_some h
          cases h
          obtain ⟨a0, xs, cs, u, k1, k2, k3, k4, k5, k6, k7⟩ := evComp_ok R PO h1 a
          refine ⟨a0, fun env I => .assignComp I.ok (k1 env I).1 (k1 env I).2.1 k2 (k1 env I).2.2 (evBind_ok h2 I) ?_ k3 k4 k5 k6 (fold_ok k7)⟩
          have hb : env.blockKind = c.sc.kind := by
            unfold Env.blockKind
            rw [I.ok.k, ← I.sc, I.ok.k]; rfl
          show (pure _ : Sem Bool) = pure true
          rw [hb, I.kind]
          exact congrArg pure hc
        · cases h
      · cases h
    · split at h
      · cases h
      · rename_i hc
        simp only [Bool.or_eq_true, not_or, Bool.not_eq_true] at hc
        obtain ⟨o, h0, h⟩ := bind_some h
        dsimp only at h
        split at h
        · obtain ⟨⟨v, s1, w1⟩, h1, h⟩ := bind_some h
          obtain ⟨a1, r2⟩ := R.A h a
          obtain ⟨a0, r1⟩ := R.E h1 a1
          refine ⟨a0, fun env I => .assign (r1 env I) (r2 env I) ?_ (comp_no hc.1) (swp_ok h0 I)⟩
          rw [assignEach_no hc.2]; rfl
        · obtain ⟨⟨v, s1, w1⟩, h1, h⟩ := bind_some h
          dsimp only at h
          split at h
          · split at h
            · rename_i hl
              obtain ⟨s2, h2, h⟩ := bind_some h
              cases h
              obtain ⟨a0, r1⟩ := R.E h1 a
              exact ⟨a0, fun env I => .swapped (r1 env I) (evBinds_ok h2 env I) (swp_ok h0 I) hl (comp_no hc.1)⟩
            · cases h
          · cases h
  · cases h

theorem inter_no (O : EnvOk env) : interactive env = false := by
  unfold interactive; rw [O.k]; rfl

def noAnn (p : Arguments) : Bool := (p.args ++ p.posonlyargs ++ p.vararg.toList ++ p.kwonlyargs ++ p.kwarg.toList).all (·.annotation.isNone)
theorem annOf_nil {env : Env} {l : List Arg} (h : l.all (·.annotation.isNone) = true) : annotationsOf l env = [] := by
  induction l with
  | nil => rfl
  | cons x r ih =>
    obtain ⟨n, a, p⟩ := x
    simp only [List.all_cons, Bool.and_eq_true, Option.isNone_iff_eq_none] at h
    obtain ⟨h1, h2⟩ := h
    subst h1
    exact ih h2
theorem noAnn_ok {p : Arguments} (h : noAnn p = true) : annTrees p none env = [] := by
  obtain ⟨po, a, va, ko, kd, kwa, df⟩ := p
  unfold annTrees
  dsimp only
  rw [annOf_nil h]; rfl

def evDef (X : SX) (c : Cx) (name : Str) (params : Arguments) (body : List Stmt) (scope : Scope) (pos : Pos) (st : St) : Option St :=
  c.code.bind fun cc => (X.tabs.find? (·.1 == cc)).bind fun q => (csOf st.cells scope.names []).bind fun cs =>
    if X.qn q.2 pos.line pos.col = c.qual ++ name ∧ c.sc.names.lookup name ≠ some .globalExplicit ∧ params.defaults.isEmpty = true ∧ params.kw_defaults.isEmpty = true ∧ noAnn params = true then
      evBind c name (.clo ⟨name, c.qual ++ name, params, body, scope⟩ cs) st else none
theorem evDef_ok (XO : SXOk X) {name : Str} {params : Arguments} {body : List Stmt} {scope : Scope} {pos : Pos} (h : evDef X c name params body scope pos st = some st') (I : Is env c) : ExS X env d (.FunctionDef name params body [] none [] scope none name pos) st .next st' := by
  unfold evDef at h
  obtain ⟨cc, h1, h⟩ := bind_some h
  obtain ⟨q, h2, h⟩ := bind_some h
  obtain ⟨cs, h3, h⟩ := bind_some h
  split at h
  · rename_i hc
    obtain ⟨c1, c2, c3, c4, c5⟩ := hc
    have e : q.1 = cc := by simpa using List.find?_some h2
    refine .defn XO (c := cc) (P := q.2) I.ok.g (I.code _ h1) (e ▸ List.mem_of_find?_eq_some h2) c1 ?_ h3 (evBind_ok h I) (List.isEmpty_iff.mp c3) (List.isEmpty_iff.mp c4) (noAnn_ok c5)
    unfold qualnameIn
    rw [I.kind, I.qual, if_neg (by simpa using c2)]
  · cases h
end
end Mine
end
section
open PySem PySem.W PySem.Calls PyProof.Rows
set_option linter.all false
set_option maxRecDepth 100000
namespace Mine
section
variable {X : SX} {G : Gt} {P : Pr} {r : Ev} {env : Env} {c : Cx} {d : Nat} {st st' st₁ st₂ : St} {w w' w₁ w₂ : Wk}

theorem ExL.sub {t : List Stmt} {f : MFlow} (h : ExL X env d t st₁ f st') (s : Sub st₁ st) : ExL X env d t st f st' := fun A fz kp kg ρ s' ok R => h A fz kp kg ρ s' ok (R.sub s)

theorem ExS.post {t : Stmt} {f : MFlow} (h : ExS X env d t st f st₁) (s : Sub st' st₁) : ExS X env d t st f st' := fun A fz kp kg ρ s' ok R Q E q => h A fz kp kg ρ s' ok R Q E fun fz' ρ' a s'' R' g p => q _ _ _ _ (R'.sub s) g p
theorem ExL.post {t : List Stmt} {f : MFlow} (h : ExL X env d t st f st₁) (s : Sub st' st₁) : ExL X env d t st f st' := fun A fz kp kg ρ s' ok R Q E q => h A fz kp kg ρ s' ok R Q E fun fz' ρ' a s'' R' g p => q _ _ _ _ (R'.sub s) g p

def subChk (a b : List (Str × MVal)) : List Prop := a.map fun p => b.lookup p.1 = some p.2
theorem AllP.map {α : Type} {f : α → Prop} : ∀ {l : List α}, AllP (l.map f) → ∀ x ∈ l, f x
  | x :: r, h, y, hy => by
    rcases List.mem_cons.mp hy with e | hy
    · subst e; exact h.1
    · exact AllP.map h.2 y hy
theorem Sub.of {a b : St} (h1 : a.led = b.led) (h2 : a.cells = b.cells) (h3 : AllP (subChk a.loc b.loc)) : Sub a b where
  led := h1
  cells := h2
  loc := fun x v e => AllP.map (f := fun p : Str × MVal => b.loc.lookup p.1 = some p.2) h3 (x, v) (lookup_mem e)
theorem CallsTo.mono {f r : MVal} {args : List MVal} {kw : List (Str × MVal)} {led led' : List MObj} {d d' : Nat} (h : CallsTo X d f args kw led r led') (hd : d ≤ d') : CallsTo X d' f args kw led r led' := fun A fz kp kg ρ s fv vs kvs R ok => h A fz kp kg ρ s fv vs kvs R (ok.mono hd)

def evFor (r : Ev) (c : Cx) (target : Expr) (body : List Stmt) : List MVal → St → Wk → Option (MFlow × St × Wk)
  | [], st, w => some (.next, st, w)
  | x :: xs, st, w => (r.A c target x st w).bind fun (st, w) => (r.B c body st w).bind fun (f, st, w) => match f with
    | .next => evFor r c target body xs st w
    | .cont => evFor r c target body xs st w
    | .brk => some (.next, st, w)
    | .ret v => some (.ret v, st, w)
theorem evFor_ok (R : EvOk X d r) {target : Expr} {body : List Stmt} : ∀ {xs : List MVal} {st st' : St} {w w' : Wk} {f : MFlow}, evFor r c target body xs st w = some (f, st', w') → AllP w'.p → AllP w.p ∧ ∀ env, Is env c → ForE X env d target body xs st f st' := by
  intro xs
  induction xs with
  | nil => intro st st' w w' f h a; cases h; exact ⟨a, fun env I => .nil⟩
  | cons x xs ih =>
    intro st st' w w' f h a
    unfold evFor at h
    obtain ⟨⟨s1, w1⟩, h1, h⟩ := bind_some h
    obtain ⟨⟨g, s2, w2⟩, h2, h⟩ := bind_some h
    cases g <;> dsimp only at h
    · obtain ⟨a2, r3⟩ := ih h a
      obtain ⟨a1, r2⟩ := R.B h2 a2
      obtain ⟨a0, r1⟩ := R.A h1 a1
      exact ⟨a0, fun env I => .next (r1 env I) (r2 env I) (.inl rfl) (r3 env I)⟩
    · cases h
      obtain ⟨a1, r2⟩ := R.B h2 a
      obtain ⟨a0, r1⟩ := R.A h1 a1
      exact ⟨a0, fun env I => .brk (r1 env I) (r2 env I)⟩
    · obtain ⟨a2, r3⟩ := ih h a
      obtain ⟨a1, r2⟩ := R.B h2 a2
      obtain ⟨a0, r1⟩ := R.A h1 a1
      exact ⟨a0, fun env I => .next (r1 env I) (r2 env I) (.inr rfl) (r3 env I)⟩
    · cases h
      obtain ⟨a1, r2⟩ := R.B h2 a
      obtain ⟨a0, r1⟩ := R.A h1 a1
      exact ⟨a0, fun env I => .ret (r1 env I) (r2 env I)⟩

/-- what a ledger list gives: the loop changes no such list -/
def ledList (v : MVal) (st : St) : Option (Nat × List MVal) :=
  match v with
  | .ref i => match st.led[i]? with
    | some (.lst vs) => some (i, vs)
    | _ => none
  | _ => none
theorem ledList_ok {v : MVal} {i : Nat} {vs : List MVal} (h : ledList v st = some (i, vs)) : v = .ref i ∧ st.led[i]? = some (.lst vs) := by
  unfold ledList at h
  split at h
  · split at h
    · rename_i e; cases h; exact ⟨rfl, e⟩
    · cases h
  · cases h

def evForS (P : Pr) (r : Ev) (X : SX) (d : Nat) (c : Cx) (target it : Expr) (body : List Stmt) (st : St) (w : Wk) : Option (MFlow × St × Wk) :=
  if isSet it = true then none else
  (r.E c it st w).bind fun (v, st, w) => match w.o with
    | .f fl st' :: o => match ledList v st with
      | some (i, vs) => if plainTarget target = true then some (fl, st', Wk.say ⟨o, w.p⟩ (∀ env, Is env c → ∃ st2, ForR X env d target body i vs vs st fl st2 ∧ Sub st' st2)) else none
      | none => (P.itr v st ⟨o, w.p⟩).bind fun (xs, w) => some (fl, st', w.say (∀ env, Is env c → ∃ st2, ForE X env d target body xs st fl st2 ∧ Sub st' st2))
    | _ => (P.itr v st w).bind fun (xs, w) => evFor r c target body xs st w
theorem evForS_ok (R : EvOk X d r) (PO : PrOk X d P) {target it : Expr} {body : List Stmt} {pos : Pos} {f : MFlow} (h : evForS P r X d c target it body st w = some (f, st', w')) (a : AllP w'.p) : AllP w.p ∧ ∀ env, Is env c → ExS X env d (.For target it body [] pos) st f st' := by
  unfold evForS at h
  split at h
  · cases h
  · rename_i hs
    have hs' : isSet it = false := by simpa using hs
    obtain ⟨⟨v, s1, w1⟩, h1, h⟩ := bind_some h
    dsimp only at h
    split at h
    · split at h
      · rename_i i vs e
        split at h
        · rename_i hp
          cases h
          obtain ⟨e1, e2⟩ := ledList_ok e
          subst e1
          obtain ⟨a1, ac⟩ := a.say
          obtain ⟨a0, r1⟩ := R.E h1 a1
          exact ⟨a0, fun env I => let ⟨_, h1, h2⟩ := ac env I; (ExS.forR (r1 env I) e2 hp h1 (fold_ok hs')).post h2⟩
        · cases h
      · obtain ⟨⟨xs, w2⟩, h2, h⟩ := bind_some h
        cases h
        obtain ⟨a2, ac⟩ := a.say
        obtain ⟨a1, r2⟩ := PO.itr h2 a2
        obtain ⟨a0, r1⟩ := R.E h1 a1
        exact ⟨a0, fun env I => let ⟨_, h1, h2⟩ := ac env I; (ExS.for (r1 env I) (r2 env I.ok) h1 (fold_ok hs')).post h2⟩
    · obtain ⟨⟨xs, w2⟩, h2, h⟩ := bind_some h
      obtain ⟨a2, r3⟩ := evFor_ok R h a
      obtain ⟨a1, r2⟩ := PO.itr h2 a2
      obtain ⟨a0, r1⟩ := R.E h1 a1
      exact ⟨a0, fun env I => .for (r1 env I) (r2 env I.ok) (r3 env I) (fold_ok hs')⟩

def isNext : MFlow → Bool
  | .next => true
  | _ => false
def evS (P : Pr) (r : Ev) (X : SX) (d : Nat) (G : Gt) (c : Cx) : Stmt → St → Wk → Option (MFlow × St × Wk)
  | .Expr e pos, st, w => if isComp e = true then none else (r.E c e st w).bind fun (_, st, w) => some (.next, st, w)
  | .Assign ts value pos, st, w => (evAssign P r X d c ts value pos st w).bind fun (st, w) => some (.next, st, w)
  | .AugAssign t op value _, st, w => match t with
    | .Name x _ => (evName G c x st).bind fun old => (r.E c value st w).bind fun (v, st, w) => (P.iop op old v st w).bind fun (u, st, w) => (evBind c x u st).bind fun st => some (.next, st, w)
    | _ => none
  | .If t b o _, st, w => (r.T c t st w).bind fun (x, st, w) => match x with
    | true => r.B c b st w
    | false => r.B c o st w
  | .For target it body orelse _, st, w => if orelse.isEmpty = true then evForS P r X d c target it body st w else none
  | .While test body orelse _, st, w => if orelse.isEmpty = true then match w.o with
      | .f fl st' :: o => some (fl, st', Wk.say ⟨o, w.p⟩ (∀ env, Is env c → ∃ st2, WhileE X env d test body st fl st2 ∧ Sub st' st2))
      | _ => r.L c test body st w
    else none
  | .Try body hs orelse fin _, st, w => if orelse.isEmpty = true then match hs, fin with
      | _ :: _, [] => r.B c body st w
      | [], f₀ :: fs => (r.B c body st w).bind fun (f, st, w) => (r.B c (f₀ :: fs) st w).bind fun (g, st, w) => if isNext g = true then some (f, st, w) else none
      | _, _ => none
    else none
  | .Return e _, st, w => match e with
    | some e => (r.E c e st w).bind fun (v, st, w) => some (.ret v, st, w)
    | none => some (.ret .none, st, w)
  | .Pass _, st, w => some (.next, st, w)
  | .Break _, st, w => some (.brk, st, w)
  | .Continue _, st, w => some (.cont, st, w)
  | .FunctionDef name params body decs rets tps scope tscope bind pos, st, w => match decs, rets, tps, tscope with
    | [], none, [], none => if bind = name then (evDef X c name params body scope pos st).bind fun st => some (.next, st, w) else none
    | _, _, _, _ => none
  | _, _, _ => none
theorem swE_ok {e : Expr} {line : Nat} (h : isComp e = false) : swapsWith e none line env = pure false := comp_no h
theorem evS_ok (XO : SXOk X) (GO : GtOk X G) (R : EvOk X d r) (PO : PrOk X d P) {t : Stmt} {f : MFlow} (h : evS P r X d G c t st w = some (f, st', w')) (a : AllP w'.p) : AllP w.p ∧ ∀ env, Is env c → ExS X env d t st f st' := by
  unfold evS at h
  split at h
  · split at h
    · cases h
    · rename_i hc
      obtain ⟨⟨v, s1, w1⟩, h1, h⟩ := bind_some h
      cases h
      obtain ⟨a0, r1⟩ := R.E h1 a
      exact ⟨a0, fun env I => .expr (r1 env I) (inter_no I.ok) (comp_no (by simpa using hc))⟩
  · obtain ⟨⟨s1, w1⟩, h1, h⟩ := bind_some h
    cases h
    exact evAssign_ok R PO h1 a
  · split at h
    · obtain ⟨old, h0, h⟩ := bind_some h
      obtain ⟨⟨v, s1, w1⟩, h1, h⟩ := bind_some h
      obtain ⟨⟨u, s2, w2⟩, h2, h⟩ := bind_some h
      obtain ⟨s3, h3, h⟩ := bind_some h
      cases h
      obtain ⟨a1, r2⟩ := PO.iop h2 a
      obtain ⟨a0, r1⟩ := R.E h1 a1
      exact ⟨a0, fun env I => .aug (evName_ok XO GO h0 I).1 (r1 env I) (r2 env I.ok) (evBind_ok h3 I)⟩
    · cases h
  · obtain ⟨⟨x, s1, w1⟩, h1, h⟩ := bind_some h
    cases x <;> dsimp only at h
    · obtain ⟨a1, r2⟩ := R.B h a
      obtain ⟨a0, r1⟩ := R.T h1 a1
      exact ⟨a0, fun env I => .ife (r1 env I) (r2 env I)⟩
    · obtain ⟨a1, r2⟩ := R.B h a
      obtain ⟨a0, r1⟩ := R.T h1 a1
      exact ⟨a0, fun env I => .ife (r1 env I) (r2 env I)⟩
  · split at h
    · rename_i ho
      rw [List.isEmpty_iff.mp ho]
      exact evForS_ok R PO h a
    · cases h
  · split at h
    · rename_i ho
      rw [List.isEmpty_iff.mp ho]
      split at h
      · cases h
        obtain ⟨a0, ac⟩ := a.say
        exact ⟨a0, fun env I => let ⟨_, h1, h2⟩ := ac env I; (ExS.while_ h1).post h2⟩
      · obtain ⟨a0, r1⟩ := R.L h a
        exact ⟨a0, fun env I => .while_ (r1 env I)⟩
    · cases h
  · split at h
    · rename_i ho
      rw [List.isEmpty_iff.mp ho]
      split at h
      · obtain ⟨a0, r1⟩ := R.B h a
        exact ⟨a0, fun env I => .tryE (r1 env I)⟩
      · obtain ⟨⟨f1, s1, w1⟩, h1, h⟩ := bind_some h
        obtain ⟨⟨g, s2, w2⟩, h2, h⟩ := bind_some h
        dsimp only at h
        split at h
        · rename_i hg
          cases h
          obtain ⟨a1, r2⟩ := R.B h2 a
          obtain ⟨a0, r1⟩ := R.B h1 a1
          have e : g = .next := by cases g <;> first | rfl | cases hg
          subst e
          exact ⟨a0, fun env I => .tryF (r1 env I) (r2 env I)⟩
        · cases h
      · cases h
    · cases h
  · split at h
    · obtain ⟨⟨v, s1, w1⟩, h1, h⟩ := bind_some h
      cases h
      obtain ⟨a0, r1⟩ := R.E h1 a
      exact ⟨a0, fun env I => .ret (r1 env I)⟩
    · cases h
      exact ⟨a, fun env I => .ret_none⟩
  · cases h; exact ⟨a, fun env I => .pass⟩
  · cases h; exact ⟨a, fun env I => .brk⟩
  · cases h; exact ⟨a, fun env I => .cont⟩
  · split at h
    · split at h
      · rename_i hb
        subst hb
        obtain ⟨s1, h1, h⟩ := bind_some h
        cases h
        exact ⟨a, fun env I => evDef_ok XO h1 I⟩
      · cases h
    · cases h
  · cases h

def evB (X : SX) (d : Nat) (r : Ev) (c : Cx) (ts : List Stmt) (st : St) (w : Wk) : Option (MFlow × St × Wk) :=
  match w.o with
  | .c st' :: o => r.B c ts st' (Wk.say ⟨o, w.p⟩ (Sub st' st))
  | .k n f st' :: o => match f with
    | .next => r.B c (ts.drop n) st' (Wk.say ⟨o, w.p⟩ (∀ env, Is env c → ExL X env d (ts.take n) st .next st'))
    | f => some (f, st', Wk.say ⟨o, w.p⟩ (∀ env, Is env c → ExL X env d ts st f st'))
  | _ => match ts with
    | [] => some (.next, st, w)
    | t :: ts => (r.S c t st w).bind fun (f, st, w) => match f with
      | .next => r.B c ts st w
      | f => some (f, st, w)
theorem evB_ok (R : EvOk X d r) {ts : List Stmt} {f : MFlow} (h : evB X d r c ts st w = some (f, st', w')) (a : AllP w'.p) : AllP w.p ∧ ∀ env, Is env c → ExL X env d ts st f st' := by
  unfold evB at h
  split at h
  · obtain ⟨a1, r1⟩ := R.B h a
    obtain ⟨a0, hs⟩ := a1.say
    exact ⟨a0, fun env I => (r1 env I).sub hs⟩
  · split at h
    · obtain ⟨a1, r1⟩ := R.B h a
      obtain ⟨a0, hs⟩ := a1.say
      refine ⟨a0, fun env I => ?_⟩
      have := ExL.app (hs env I) (r1 env I)
      rwa [List.take_append_drop] at this
    · cases h; exact a.say
  · split at h
    · cases h; exact ⟨a, fun env I => .nil⟩
    · obtain ⟨⟨g, s1, w1⟩, h1, h⟩ := bind_some h
      dsimp only at h
      split at h
      · obtain ⟨a1, r2⟩ := R.B h a
        obtain ⟨a0, r1⟩ := R.S h1 a1
        exact ⟨a0, fun env I => .cons (r1 env I) (r2 env I)⟩
      · rename_i hn
        cases h
        obtain ⟨a0, r1⟩ := R.S h1 a
        exact ⟨a0, fun env I => .stop (r1 env I) (fun e => hn e)⟩

def evW (r : Ev) (c : Cx) (test : Expr) (body : List Stmt) (st : St) (w : Wk) : Option (MFlow × St × Wk) :=
  (r.T c test st w).bind fun (b, st, w) => match b with
    | false => some (.next, st, w)
    | true => (r.B c body st w).bind fun (f, st, w) => match f with
      | .next => r.L c test body st w
      | .cont => r.L c test body st w
      | .brk => some (.next, st, w)
      | .ret v => some (.ret v, st, w)
theorem evW_ok (R : EvOk X d r) {test : Expr} {body : List Stmt} {f : MFlow} (h : evW r c test body st w = some (f, st', w')) (a : AllP w'.p) : AllP w.p ∧ ∀ env, Is env c → WhileE X env d test body st f st' := by
  unfold evW at h
  obtain ⟨⟨b, s1, w1⟩, h1, h⟩ := bind_some h
  cases b <;> dsimp only at h
  · cases h
    obtain ⟨a0, r1⟩ := R.T h1 a
    exact ⟨a0, fun env I => .stop (r1 env I)⟩
  · obtain ⟨⟨g, s2, w2⟩, h2, h⟩ := bind_some h
    cases g <;> dsimp only at h
    · obtain ⟨a2, r3⟩ := R.L h a
      obtain ⟨a1, r2⟩ := R.B h2 a2
      obtain ⟨a0, r1⟩ := R.T h1 a1
      exact ⟨a0, fun env I => .next (r1 env I) (r2 env I) (.inl rfl) (r3 env I)⟩
    · cases h
      obtain ⟨a1, r2⟩ := R.B h2 a
      obtain ⟨a0, r1⟩ := R.T h1 a1
      exact ⟨a0, fun env I => .brk (r1 env I) (r2 env I)⟩
    · obtain ⟨a2, r3⟩ := R.L h a
      obtain ⟨a1, r2⟩ := R.B h2 a2
      obtain ⟨a0, r1⟩ := R.T h1 a1
      exact ⟨a0, fun env I => .next (r1 env I) (r2 env I) (.inr rfl) (r3 env I)⟩
    · cases h
      obtain ⟨a1, r2⟩ := R.B h2 a
      obtain ⟨a0, r1⟩ := R.T h1 a1
      exact ⟨a0, fun env I => .ret (r1 env I) (r2 env I)⟩

def evNext (P : Pr) (X : SX) (d : Nat) (G : Gt) (r : Ev) : Ev where
  E := fun c => evE P r X d G c
  T := fun c => evT P r c
  A := fun c => evA r X c
  S := fun c => evS P r X d G c
  B := fun c => evB X d r c
  L := fun c => evW r c
def evNone : Ev where
  E := fun _ _ _ _ => none
  T := fun _ _ _ _ => none
  A := fun _ _ _ _ _ => none
  S := fun _ _ _ _ => none
  B := fun _ _ _ _ => none
  L := fun _ _ _ _ _ => none
def evN (P : Pr) (X : SX) (d : Nat) (G : Gt) : Nat → Ev
  | 0 => evNone
  | n + 1 => evNext P X d G (evN P X d G n)
theorem evN_ok (XO : SXOk X) (GO : GtOk X G) (PO : PrOk X d P) : ∀ n, EvOk X d (evN P X d G n)
  | 0 => ⟨nofun, nofun, nofun, nofun, nofun, nofun⟩
  | n + 1 => by
    have R := evN_ok XO GO PO n
    exact ⟨fun h a => evE_ok XO GO R PO h a, fun h a => evT_ok R PO h a, fun h a => evA_ok XO R h a, fun h a => evS_ok XO GO R PO h a, fun h a => evB_ok R h a, fun h a => evW_ok R h a⟩
end
end Mine
end
section
open PySem PySem.W PySem.Calls PyProof.Rows
set_option linter.all false
set_option maxRecDepth 100000
namespace Mine

def isiTab : List (String × String × Bool) := [
  ("list", "str", false), ("list", "bool", false), ("list", "int", false), ("list", "list", true), ("list", "tuple", false), ("list", "dict", false),
  ("str", "str", true), ("str", "bool", false), ("str", "int", false), ("str", "list", false), ("str", "tuple", false), ("str", "dict", false),
  ("int", "str", false), ("int", "bool", false), ("int", "int", true), ("int", "list", false), ("int", "tuple", false), ("int", "dict", false),
  ("dict", "str", false), ("dict", "bool", false), ("dict", "int", false), ("dict", "list", false), ("dict", "tuple", false), ("dict", "dict", true),
  ("tuple", "str", false), ("tuple", "bool", false), ("tuple", "int", false), ("tuple", "list", false), ("tuple", "tuple", true), ("tuple", "dict", false),
  ("bool", "str", false), ("bool", "bool", true), ("bool", "int", true), ("bool", "list", false), ("bool", "tuple", false), ("bool", "dict", false),
  ("NoneType", "str", false), ("NoneType", "bool", false), ("NoneType", "int", false), ("NoneType", "list", false), ("NoneType", "tuple", false), ("NoneType", "dict", false), ("generator", "list", false), ("generator", "tuple", false)]
def Isi (q : String × String × Bool) : Prop := isSubtype (.type q.1) (.type q.2.1) = pure q.2.2 ∧ (q.2.2 = false → (Value.type q.1 == Value.type q.2.1) = false) ∧ typeOf (.type q.2.1) = pure (.type "type")
theorem isiTab_ok : ∀ q ∈ isiTab, Isi q := by
  unfold isiTab
  simp only [List.forall_mem_cons, List.not_mem_nil, false_imp_iff, implies_true, and_true]
  refine ⟨?_, ?_, ?_, ?_, ?_, ?_, ?_, ?_, ?_, ?_, ?_, ?_, ?_, ?_, ?_, ?_, ?_, ?_, ?_, ?_, ?_, ?_, ?_, ?_, ?_, ?_, ?_, ?_, ?_, ?_, ?_, ?_, ?_, ?_, ?_, ?_, ?_, ?_, ?_, ?_, ?_, ?_, ?_, ?_⟩
  all_goals exact ⟨by kernel_rfl, by decide, by rfl⟩
def isiB (T C : String) : Option Bool := (isiTab.find? fun q => q.1 == T && q.2.1 == C).map fun q => q.2.2
theorem isiB_ok {T C : String} {b : Bool} (h : isiB T C = some b) : Isi (T, C, b) := by
  obtain ⟨q, h1, rfl⟩ := map_some h
  have h2 := List.find?_some h1
  have h3 := isiTab_ok q (List.mem_of_find?_eq_some h1)
  simp only [Bool.and_eq_true, beq_iff_eq] at h2
  obtain ⟨q1, q2, q3⟩ := q
  obtain ⟨e1, e2⟩ := h2
  dsimp only at e1 e2
  subst e1 e2
  exact h3

section
variable {X : SX} {G : Gt} {env : Env} {c : Cx} {d : Nat} {st st' st₁ st₂ : St} {w w' w₁ w₂ : Wk}

-- told by hand
def tellBin (X : SX) (d : Nat) (op : Operator) (a b : MVal) (st : St) (w : Wk) : Option (MVal × St × Wk) :=
  match w.o with
  | .v r led :: o => some (r, st.wled led, Wk.say ⟨o, w.p⟩ (∀ env, EnvOk env → BinE X env d op a b st r (st.wled led)))
  | .r r :: o => some (r, st, Wk.say ⟨o, w.p⟩ (∀ env st, EnvOk env → BinE X env d op a b st r st))
  | _ => none
theorem tellBin_ok {op : Operator} {a b r : MVal} (h : tellBin X d op a b st w = some (r, st', w')) (p : AllP w'.p) : AllP w.p ∧ ∀ env, EnvOk env → BinE X env d op a b st r st' := by
  unfold tellBin at h
  split at h
  · cases h; exact p.say
  · cases h; exact ⟨p.say.1, fun env => p.say.2 env _⟩
  · cases h
def tellIop (X : SX) (d : Nat) (op : Operator) (a b : MVal) (st : St) (w : Wk) : Option (MVal × St × Wk) :=
  match w.o with
  | .v r led :: o => some (r, st.wled led, Wk.say ⟨o, w.p⟩ (∀ env, EnvOk env → IopE X env d op a b st r (st.wled led)))
  | .r r :: o => some (r, st, Wk.say ⟨o, w.p⟩ (∀ env st, EnvOk env → IopE X env d op a b st r st))
  | _ => none
theorem tellIop_ok {op : Operator} {a b r : MVal} (h : tellIop X d op a b st w = some (r, st', w')) (p : AllP w'.p) : AllP w.p ∧ ∀ env, EnvOk env → IopE X env d op a b st r st' := by
  unfold tellIop at h
  split at h
  · cases h; exact p.say
  · cases h; exact ⟨p.say.1, fun env => p.say.2 env _⟩
  · cases h

def prBin (X : SX) (d : Nat) (op : Operator) (a b : MVal) (st : St) (w : Wk) : Option (MVal × St × Wk) :=
  match a, b with
  | .int a, .int b => match op with
    | .Add => some (.int (a + b), st, w)
    | .Sub => some (.int (a - b), st, w)
    | .Mult => some (.int (a * b), st, w.say (IntMulOk a b))
    | .Mod => some (.int (a.fmod b), st, w.say (b ≠ 0))
    | .FloorDiv => some (.int (a.fdiv b), st, (w.say (b ≠ 0)).say (b.natAbs < 1073741824))
    | .BitXor => some (.int (Builtin.bitXor a b), st, w)
    | op => tellBin X d op (.int a) (.int b) st w
  | .str a, .str b => match op with
    | .Add => some (.str (a ++ b), st, w.say (a.length + b.length ≤ 10000000))
    | op => tellBin X d op (.str a) (.str b) st w
  | .lst a, .lst b => match op with
    | .Add => some (.lst (a ++ b), st, w.say (a.length + b.length ≤ 10000000))
    | op => tellBin X d op (.lst a) (.lst b) st w
  | a, b => tellBin X d op a b st w
theorem prBin_ok {op : Operator} {a b r : MVal} (h : prBin X d op a b st w = some (r, st', w')) (p : AllP w'.p) : AllP w.p ∧ ∀ env, EnvOk env → BinE X env d op a b st r st' := by
  unfold prBin at h
  split at h
  · split at h
    · cases h; exact ⟨p, fun env _ => .addI⟩
    · cases h; exact ⟨p, fun env _ => .subI⟩
    · cases h; exact ⟨p.say.1, fun env _ => .mulI p.say.2⟩
    · cases h; exact ⟨p.say.1, fun env _ => .modI p.say.2⟩
    · cases h; exact ⟨p.say.1.say.1, fun env _ => .divI p.say.1.say.2 p.say.2⟩
    · cases h; exact ⟨p, fun env _ => .xorI⟩
    · exact tellBin_ok h p
  · split at h
    · cases h; exact ⟨p.say.1, fun env _ => .addS p.say.2⟩
    · exact tellBin_ok h p
  · split at h
    · cases h; exact ⟨p.say.1, fun env _ => .addL p.say.2⟩
    · exact tellBin_ok h p
  · exact tellBin_ok h p
def prIop (X : SX) (d : Nat) (op : Operator) (a b : MVal) (st : St) (w : Wk) : Option (MVal × St × Wk) :=
  match a, b with
  | .int a, .int b => match op with
    | .Add => some (.int (a + b), st, w)
    | .Sub => some (.int (a - b), st, w)
    | op => tellIop X d op (.int a) (.int b) st w
  | a, b => tellIop X d op a b st w
theorem prIop_ok {op : Operator} {a b r : MVal} (h : prIop X d op a b st w = some (r, st', w')) (p : AllP w'.p) : AllP w.p ∧ ∀ env, EnvOk env → IopE X env d op a b st r st' := by
  unfold prIop at h
  split at h
  · split at h
    · cases h; exact ⟨p, fun env _ => .addI⟩
    · cases h; exact ⟨p, fun env _ => .subI⟩
    · exact tellIop_ok h p
  · exact tellIop_ok h p

def tellCmp (X : SX) (d : Nat) (op : CmpOp) (a b : MVal) (st : St) (w : Wk) : Option (Bool × Wk) :=
  match w.o with
  | .m r :: o => some (r, Wk.say ⟨o, w.p⟩ (∀ env st, EnvOk env → CmpE X env d op a b st r st))
  | .b r :: o => some (r, Wk.say ⟨o, w.p⟩ (∀ env, EnvOk env → CmpE X env d op a b st r st))
  | _ => none
theorem tellCmp_ok {op : CmpOp} {a b : MVal} {r : Bool} (h : tellCmp X d op a b st w = some (r, w')) (p : AllP w'.p) : AllP w.p ∧ ∀ env, EnvOk env → CmpE X env d op a b st r st := by
  unfold tellCmp at h
  split at h
  · cases h; exact ⟨p.say.1, fun env => p.say.2 env _⟩
  · cases h; exact p.say
  · cases h
def isN : MVal → Option Bool
  | .none => some true
  | .obj (.ref _) => some false
  | .obj (.type _) => some false
  | .obj _ => none
  | _ => some false
theorem isN_ok {a : MVal} {b : Bool} (h : isN a = some b) : (b = true ∧ a = .none) ∨ (b = false ∧ a.notNone = true) := by
  cases a
  case none => cases h; exact .inl ⟨rfl, rfl⟩
  case obj v => cases v <;> first | (cases h; done) | (cases h; exact .inr ⟨rfl, rfl⟩)
  all_goals (cases h; exact .inr ⟨rfl, rfl⟩)
def prCmp (X : SX) (d : Nat) (op : CmpOp) (a b : MVal) (st : St) (w : Wk) : Option (Bool × Wk) :=
  match a, b with
  | .int a, .int b => match op with
    | .Eq => some (a == b, w)
    | .NotEq => some (a != b, w)
    | .Lt => some (decide (a < b), w)
    | .LtE => some (decide (a ≤ b), w)
    | .Gt => some (decide (a > b), w)
    | .GtE => some (decide (a ≥ b), w)
    | op => tellCmp X d op (.int a) (.int b) st w
  | .str a, .str b => match op with
    | .Eq => some (a == b, w)
    | .NotEq => some (a != b, w)
    | .In => some (Txt.contains b a, w)
    | op => tellCmp X d op (.str a) (.str b) st w
  | a, .none => match op with
    | .Is => (isN a).bind fun r => some (r, w)
    | .IsNot => (isN a).bind fun r => some (!r, w)
    | op => tellCmp X d op a .none st w
  | a, b => tellCmp X d op a b st w
theorem prCmp_ok {op : CmpOp} {a b : MVal} {r : Bool} (h : prCmp X d op a b st w = some (r, w')) (p : AllP w'.p) : AllP w.p ∧ ∀ env, EnvOk env → CmpE X env d op a b st r st := by
  unfold prCmp at h
  split at h
  · split at h
    · cases h; exact ⟨p, fun env _ => .eqI⟩
    · cases h; exact ⟨p, fun env _ => .neI⟩
    · cases h; exact ⟨p, fun env _ => .ltI⟩
    · cases h; exact ⟨p, fun env _ => .leI⟩
    · cases h; exact ⟨p, fun env _ => .gtI⟩
    · cases h; exact ⟨p, fun env _ => .geI⟩
    · exact tellCmp_ok h p
  · split at h
    · cases h; exact ⟨p, fun env _ => .eqS⟩
    · cases h; exact ⟨p, fun env _ => .neS⟩
    · cases h; exact ⟨p, fun env _ => .inS⟩
    · exact tellCmp_ok h p
  · split at h
    · obtain ⟨b, h1, h⟩ := bind_some h
      cases h
      rcases isN_ok h1 with ⟨rfl, rfl⟩ | ⟨rfl, h2⟩
      · exact ⟨p, fun env _ => .noneIs⟩
      · exact ⟨p, fun env _ => .otherIs h2⟩
    · obtain ⟨b, h1, h⟩ := bind_some h
      cases h
      rcases isN_ok h1 with ⟨rfl, rfl⟩ | ⟨rfl, h2⟩
      · exact ⟨p, fun env _ => .noneIsNot⟩
      · exact ⟨p, fun env _ => .otherIsNot h2⟩
    · exact tellCmp_ok h p
  · exact tellCmp_ok h p

def tellTru (X : SX) (d : Nat) (a : MVal) (st : St) (w : Wk) : Option (Bool × Wk) :=
  match w.o with
  | .m r :: o => some (r, Wk.say ⟨o, w.p⟩ (∀ env, EnvOk env → TruE X env d a st r st))
  | _ => none
theorem tellTru_ok {a : MVal} {r : Bool} (h : tellTru X d a st w = some (r, w')) (p : AllP w'.p) : AllP w.p ∧ ∀ env, EnvOk env → TruE X env d a st r st := by
  unfold tellTru at h
  split at h
  · cases h; exact p.say
  · cases h
def prTru (X : SX) (d : Nat) (a : MVal) (st : St) (w : Wk) : Option (Bool × Wk) :=
  match a with
  | .bool b => some (b, w)
  | .int a => some (a != 0, w)
  | .none => some (false, w)
  | .str x => some ((x.length : Int) != 0, w.say (x.length ≤ 10000000))
  | .lst vs => some (!vs.isEmpty, w.say (vs.length ≤ 10000000))
  | .tup vs => some (!vs.isEmpty, w.say (vs.length ≤ 10000000))
  | .ref i => match st.led[i]? with
    | some (.lst vs) => some (!vs.isEmpty, w.say (vs.length ≤ 10000000))
    | _ => tellTru X d (.ref i) st w
  | a => tellTru X d a st w
theorem prTru_ok {a : MVal} {r : Bool} (h : prTru X d a st w = some (r, w')) (p : AllP w'.p) : AllP w.p ∧ ∀ env, EnvOk env → TruE X env d a st r st := by
  unfold prTru at h
  split at h
  · cases h; exact ⟨p, fun env _ => .bool⟩
  · cases h; exact ⟨p, fun env _ => .int⟩
  · cases h; exact ⟨p, fun env _ => .none⟩
  · cases h; exact ⟨p.say.1, fun env _ => .str p.say.2⟩
  · cases h; exact ⟨p.say.1, fun env _ => .lst p.say.2⟩
  · cases h; exact ⟨p.say.1, fun env _ => .tup p.say.2⟩
  · split at h
    · rename_i e; cases h; exact ⟨p.say.1, fun env _ => .ref e p.say.2⟩
    · exact tellTru_ok h p
  · exact tellTru_ok h p

def smallI (k : Int) : Bool := decide (-(2 ^ 63) ≤ k) && decide (k < 2 ^ 63)
def itemAt (vs : List MVal) (k : Int) (w : Wk) : Option (MVal × Wk) :=
  match w.o with
  | .i j v :: o => some (v, (((Wk.say ⟨o, w.p⟩ (seqIndex? k vs.length = some j)).say (vs[j]? = some v)).say (-(2 ^ 63) ≤ k)).say (k < 2 ^ 63))
  | _ => if smallI k = true then (seqIndex? k vs.length).bind fun j => (vs[j]?).bind fun v => some (v, w) else none
theorem itemAt_ok {vs : List MVal} {k : Int} {v : MVal} (h : itemAt vs k w = some (v, w')) (p : AllP w'.p) : AllP w.p ∧ ∃ j, seqIndex? k vs.length = some j ∧ vs[j]? = some v ∧ -(2 ^ 63) ≤ k ∧ k < 2 ^ 63 := by
  unfold itemAt at h
  split at h
  · cases h
    obtain ⟨p, p1⟩ := p.say
    obtain ⟨p, p2⟩ := p.say
    obtain ⟨p, p3⟩ := p.say
    obtain ⟨p, p4⟩ := p.say
    exact ⟨p, _, p4, p3, p2, p1⟩
  · split at h
    · rename_i hs
      obtain ⟨j, h1, h⟩ := bind_some h
      obtain ⟨u, h2, h⟩ := bind_some h
      cases h
      simp only [smallI, Bool.and_eq_true, decide_eq_true_eq] at hs
      exact ⟨p, j, h1, h2, hs.1, hs.2⟩
    · cases h
def tellItm (X : SX) (d : Nat) (a b : MVal) (st : St) (w : Wk) : Option (MVal × Wk) :=
  match w.o with
  | .i _ v :: o => some (v, Wk.say ⟨o, w.p⟩ (∀ env st, EnvOk env → ItE X env d a b st v st))
  | _ => none
def tellItmS (X : SX) (d : Nat) (a b : MVal) (st : St) (w : Wk) : Option (MVal × Wk) :=
  match w.o with
  | .i _ v :: o => some (v, Wk.say ⟨o, w.p⟩ (∀ env, EnvOk env → ItE X env d a b st v st))
  | _ => none
theorem tellItmS_ok {a b v : MVal} (h : tellItmS X d a b st w = some (v, w')) (p : AllP w'.p) : AllP w.p ∧ ∀ env, EnvOk env → ItE X env d a b st v st := by
  unfold tellItmS at h
  split at h
  · cases h; exact p.say
  · cases h
def prItm (X : SX) (d : Nat) (a b : MVal) (st : St) (w : Wk) : Option (MVal × Wk) :=
  match a, b with
  | .tup vs, .int k => itemAt vs k w
  | .lst vs, .int k => itemAt vs k w
  | .ref i, .int k => match st.led[i]? with
    | some (.lst vs) => itemAt vs k w
    | _ => tellItmS X d (.ref i) (.int k) st w
  | .ref i, b => tellItmS X d (.ref i) b st w
  | .str x, .int k => match w.o with
    | .i j (.int c) :: o => some (.str ⟨#[c.toNat]⟩, (((Wk.say ⟨o, w.p⟩ (seqIndex? k x.length = some j)).say (x.cps[j]? = some c.toNat)).say (-(2 ^ 63) ≤ k)).say (k < 2 ^ 63))
    | _ => none
  | a, b => tellItm X d a b st w
theorem prItm_ok {a b v : MVal} (h : prItm X d a b st w = some (v, w')) (p : AllP w'.p) : AllP w.p ∧ ∀ env, EnvOk env → ItE X env d a b st v st := by
  unfold prItm at h
  split at h
  · obtain ⟨p0, j, h1, h2, h3, h4⟩ := itemAt_ok h p
    exact ⟨p0, fun env _ => .tup h1 h2 h3 h4⟩
  · obtain ⟨p0, j, h1, h2, h3, h4⟩ := itemAt_ok h p
    exact ⟨p0, fun env _ => .lst h1 h2 h3 h4⟩
  · split at h
    · rename_i e
      obtain ⟨p0, j, h1, h2, h3, h4⟩ := itemAt_ok h p
      exact ⟨p0, fun env _ => .ref e h1 h2 h3 h4⟩
    · exact tellItmS_ok h p
  · exact tellItmS_ok h p
  · split at h
    · cases h
      obtain ⟨p, p1⟩ := p.say
      obtain ⟨p, p2⟩ := p.say
      obtain ⟨p, p3⟩ := p.say
      obtain ⟨p, p4⟩ := p.say
      exact ⟨p, fun env _ => .str p4 p3 p2 p1⟩
    · cases h
  · unfold tellItm at h
    split at h
    · cases h; exact ⟨p.say.1, fun env => p.say.2 env _⟩
    · cases h

-- calls
def tellApp (X : SX) (d : Nat) (f : MVal) (args : List MVal) (kw : List (Str × MVal)) (st : St) (w : Wk) : Option (MVal × St × Wk) :=
  match w.o with
  | .v r led :: o => match f with
    | .obj (.builtin _) => some (r, st.wled led, Wk.say ⟨o, w.p⟩ (∀ env, EnvOk env → AppE X env d f args kw st r (st.wled led)))
    | .obj (.type _) => some (r, st.wled led, Wk.say ⟨o, w.p⟩ (∀ env, EnvOk env → AppE X env d f args kw st r (st.wled led)))
    | .bm _ _ => some (r, st.wled led, Wk.say ⟨o, w.p⟩ (∀ env, EnvOk env → AppE X env d f args kw st r (st.wled led)))
    | f => some (r, st.wled led, Wk.say ⟨o, w.p⟩ (CallsTo X d f args kw st.led r led))
  | .r r :: o => some (r, st, Wk.say ⟨o, w.p⟩ (∀ env st, EnvOk env → AppE X env d f args kw st r st))
  | _ => none
theorem tellApp_ok {f r : MVal} {args : List MVal} {kw : List (Str × MVal)} (h : tellApp X d f args kw st w = some (r, st', w')) (p : AllP w'.p) : AllP w.p ∧ ∀ env, EnvOk env → AppE X env d f args kw st r st' := by
  unfold tellApp at h
  split at h
  · split at h
    · cases h; exact p.say
    · cases h; exact p.say
    · cases h; exact p.say
    · cases h; exact ⟨p.say.1, fun env _ => .of p.say.2⟩
  · cases h; exact ⟨p.say.1, fun env => p.say.2 env _⟩
  · cases h
def appLen (X : SX) (d : Nat) (args : List MVal) (st : St) (w : Wk) : Option (MVal × St × Wk) :=
  match args with
  | [.str x] => some (.int x.length, st, w.say (x.length ≤ 10000000))
  | [.lst vs] => some (.int vs.length, st, w.say (vs.length ≤ 10000000))
  | [.tup vs] => some (.int vs.length, st, w.say (vs.length ≤ 10000000))
  | [.ref i] => match st.led[i]? with
    | some (.lst vs) => some (.int vs.length, st, w.say (vs.length ≤ 10000000))
    | _ => tellApp X d (.obj (.builtin "len")) args [] st w
  | _ => tellApp X d (.obj (.builtin "len")) args [] st w
theorem appLen_ok {r : MVal} {args : List MVal} (h : appLen X d args st w = some (r, st', w')) (p : AllP w'.p) : AllP w.p ∧ ∀ env, EnvOk env → AppE X env d (.obj (.builtin "len")) args [] st r st' := by
  unfold appLen at h
  split at h
  · cases h; exact ⟨p.say.1, fun env _ => .lenS p.say.2⟩
  · cases h; exact ⟨p.say.1, fun env _ => .lenL p.say.2⟩
  · cases h; exact ⟨p.say.1, fun env _ => .lenT p.say.2⟩
  · split at h
    · rename_i e; cases h; exact ⟨p.say.1, fun env _ => .lenR e p.say.2⟩
    · exact tellApp_ok h p
  · exact tellApp_ok h p
def appIsi (X : SX) (d : Nat) (args : List MVal) (st : St) (w : Wk) : Option (MVal × St × Wk) :=
  match args with
  | [m, .obj (.type C)] => match m.ty with
    | some T => (isiB T C).bind fun b => some (.bool b, st, w)
    | none => tellApp X d (.obj (.builtin "isinstance")) [m, .obj (.type C)] [] st w
  | [m, .obj (.ref C)] => m.ty.bind fun T => if (T != "generator" && isNotIn X.K T C) = true then some (.bool false, st, w) else none
  | [m, .tup [.obj (.type C₁), .obj (.type C₂)]] => m.ty.bind fun T => (isiB T C₁).bind fun b₁ => (isiB T C₂).bind fun b₂ => some (.bool (b₁ || b₂), st, w)
  | _ => tellApp X d (.obj (.builtin "isinstance")) args [] st w
theorem appIsi_ok (XO : SXOk X) {r : MVal} {args : List MVal} (h : appIsi X d args st w = some (r, st', w')) (p : AllP w'.p) : AllP w.p ∧ ∀ env, EnvOk env → AppE X env d (.obj (.builtin "isinstance")) args [] st r st' := by
  unfold appIsi at h
  split at h
  · split at h
    · rename_i h1
      obtain ⟨b, h2, h⟩ := bind_some h
      cases h
      obtain ⟨k1, k2, k3⟩ := isiB_ok h2
      exact ⟨p, fun env _ => .isi h1 k1 k2 k3⟩
    · exact tellApp_ok h p
  · obtain ⟨T, h1, h⟩ := bind_some h
    split at h
    · rename_i hc
      simp only [Bool.and_eq_true, bne_iff_ne, ne_eq] at hc
      cases h
      exact ⟨p, fun env _ => .isiCls XO h1 hc.1 hc.2⟩
    · cases h
  · obtain ⟨T, h1, h⟩ := bind_some h
    obtain ⟨b1, h2, h⟩ := bind_some h
    obtain ⟨b2, h3, h⟩ := bind_some h
    cases h
    obtain ⟨k1, k2, k3⟩ := isiB_ok h2
    obtain ⟨l1, l2, l3⟩ := isiB_ok h3
    exact ⟨p, fun env _ => .isi2 h1 k1 k2 k3 l1 l2 l3⟩
  · exact tellApp_ok h p
def appPush (X : SX) (d : Nat) (args : List MVal) (st : St) (w : Wk) : Option (MVal × St × Wk) :=
  match args with
  | [.ref i, v] => match st.led[i]? with
    | some (.lst vs) => some (.none, st.wled (st.led.set i (.lst (vs ++ [v]))), w.say (vs.length ≤ 10000000))
    | _ => none
  | _ => none
theorem appPush_ok {r : MVal} {args : List MVal} (h : appPush X d args st w = some (r, st', w')) (p : AllP w'.p) : AllP w.p ∧ ∀ env, EnvOk env → AppE X env d (.obj (.builtin "list.append")) args [] st r st' := by
  unfold appPush at h
  split at h
  · split at h
    · rename_i e; cases h; exact ⟨p.say.1, fun env _ => .appendF e p.say.2⟩
    · cases h
  · cases h
def appBm (X : SX) (d : Nat) (id : String) (i : Nat) (args : List MVal) (st : St) (w : Wk) : Option (MVal × St × Wk) :=
  if id = "list.append" then match args with
    | [v] => match st.led[i]? with
      | some (.lst vs) => some (.none, st.wled (st.led.set i (.lst (vs ++ [v]))), w.say (vs.length ≤ 10000000))
      | _ => none
    | _ => none
  else tellApp X d (.bm id (.ref i)) args [] st w
theorem appBm_ok {r : MVal} {id : String} {i : Nat} {args : List MVal} (h : appBm X d id i args st w = some (r, st', w')) (p : AllP w'.p) : AllP w.p ∧ ∀ env, EnvOk env → AppE X env d (.bm id (.ref i)) args [] st r st' := by
  unfold appBm at h
  split at h
  · rename_i e0
    subst e0
    split at h
    · split at h
      · rename_i e; cases h; exact ⟨p.say.1, fun env _ => .bmAppendF e p.say.2⟩
      · cases h
    · cases h
  · exact tellApp_ok h p
def appRange (X : SX) (d : Nat) (args : List MVal) (st : St) (w : Wk) : Option (MVal × St × Wk) :=
  match args with
  | [.int n] => some (.rng 0 n, st, w)
  | [.int a, .int b] => some (.rng a b, st, w)
  | _ => tellApp X d (.obj (.type "range")) args [] st w
theorem appRange_ok {r : MVal} {args : List MVal} (h : appRange X d args st w = some (r, st', w')) (p : AllP w'.p) : AllP w.p ∧ ∀ env, EnvOk env → AppE X env d (.obj (.type "range")) args [] st r st' := by
  unfold appRange at h
  split at h
  · cases h; exact ⟨p, fun env _ => .range1⟩
  · cases h; exact ⟨p, fun env _ => .range2⟩
  · exact tellApp_ok h p
def appOrd (X : SX) (d : Nat) (args : List MVal) (st : St) (w : Wk) : Option (MVal × St × Wk) :=
  match args with
  | [.str ⟨⟨[c]⟩⟩] => some (.int c, st, w)
  | _ => tellApp X d (.obj (.builtin "ord")) args [] st w
theorem appOrd_ok {r : MVal} {args : List MVal} (h : appOrd X d args st w = some (r, st', w')) (p : AllP w'.p) : AllP w.p ∧ ∀ env, EnvOk env → AppE X env d (.obj (.builtin "ord")) args [] st r st' := by
  unfold appOrd at h
  split at h
  · cases h; exact ⟨p, fun env _ => .ord⟩
  · exact tellApp_ok h p
def appClear (X : SX) (d : Nat) (args : List MVal) (st : St) (w : Wk) : Option (MVal × St × Wk) :=
  match args with
  | [.ref i] => match st.led[i]? with
    | some (.dct ds) => some (.none, st.wled (st.led.set i (.dct [])), w.say (ds.length ≤ 10000000))
    | _ => none
  | _ => none
theorem appClear_ok {r : MVal} {args : List MVal} (h : appClear X d args st w = some (r, st', w')) (p : AllP w'.p) : AllP w.p ∧ ∀ env, EnvOk env → AppE X env d (.obj (.builtin "dict.clear")) args [] st r st' := by
  unfold appClear at h
  split at h
  · split at h
    · rename_i e; cases h; exact ⟨p.say.1, fun env _ => .clear e p.say.2⟩
    · cases h
  · cases h
def prApp (X : SX) (d : Nat) (f : MVal) (args : List MVal) (kw : List (Str × MVal)) (st : St) (w : Wk) : Option (MVal × St × Wk) :=
  match kw with
  | [] => match f with
    | .obj (.builtin id) => if id = "len" then appLen X d args st w else if id = "isinstance" then appIsi X d args st w else if id = "list.append" then appPush X d args st w else if id = "ord" then appOrd X d args st w else if id = "dict.clear" then appClear X d args st w else tellApp X d f args [] st w
    | .obj (.type id) => if id = "range" then appRange X d args st w else tellApp X d f args [] st w
    | .bm id (.ref i) => appBm X d id i args st w
    | f => tellApp X d f args [] st w
  | kw => tellApp X d f args kw st w
theorem prApp_ok (XO : SXOk X) {f r : MVal} {args : List MVal} {kw : List (Str × MVal)} (h : prApp X d f args kw st w = some (r, st', w')) (p : AllP w'.p) : AllP w.p ∧ ∀ env, EnvOk env → AppE X env d f args kw st r st' := by
  unfold prApp at h
  split at h
  · split at h
    · split at h
      · rename_i e; subst e; exact appLen_ok h p
      · split at h
        · rename_i e; subst e; exact appIsi_ok XO h p
        · split at h
          · rename_i e; subst e; exact appPush_ok h p
          · split at h
            · rename_i e; subst e; exact appOrd_ok h p
            · split at h
              · rename_i e; subst e; exact appClear_ok h p
              · exact tellApp_ok h p
    · split at h
      · rename_i e; subst e; exact appRange_ok h p
      · exact tellApp_ok h p
    · exact appBm_ok h p
    · exact tellApp_ok h p
  · exact tellApp_ok h p

-- attributes
def tellAtt (X : SX) (d : Nat) (a : MVal) (name : Str) (st : St) (w : Wk) : Option (MVal × St × Wk) :=
  match w.o with
  | .v r led :: o => some (r, st.wled led, Wk.say ⟨o, w.p⟩ (∀ env, EnvOk env → GtE X env d a name st r (st.wled led)))
  | .r r :: o => some (r, st, Wk.say ⟨o, w.p⟩ (∀ env st, EnvOk env → GtE X env d a name st r st))
  | _ => none
def prAtt (X : SX) (d : Nat) (a : MVal) (name : Str) (st : St) (w : Wk) : Option (MVal × St × Wk) :=
  match a with
  | .insr C i => match st.led[i]? with
    | some (.dct ds) => if (plainGet X.K C name && hasDictIn X.K C) = true then match findIn X.K (.ref C) name with
      | some attr => match ds.lookup name with
        | some v => if noGet X.K attr = true then some (v, st, w.say (v.handed = true)) else none
        | none => match attr with
          | some v => if specialIn X.K v "__get__" = some none ∧ handedIn v = true ∧ copiedNames.contains name = false then some (ofVal v, st, w) else match v with
            | .ref f => if isFn X.K (.ref f) = true ∧ specialIn X.K (.ref f) "__get__" = some (some (.builtin "function.__get__")) ∧ takesIn X.K (.ref f) = some false ∧ copiedNames.contains name = false then some (.fo "method" [.obj (.ref f), .insr C i], st, w) else none
            | _ => none
          | none => none
      | none => none else none
    | _ => none
  | .ref i => if name = "append" then match st.led[i]? with
      | some (.lst _) => some (.bm "list.append" (.ref i), st, w)
      | _ => none
    else tellAtt X d a name st w
  | a => tellAtt X d a name st w
theorem prAtt_ok (XO : SXOk X) {a r : MVal} {name : Str} (h : prAtt X d a name st w = some (r, st', w')) (p : AllP w'.p) : AllP w.p ∧ ∀ env, EnvOk env → GtE X env d a name st r st' := by
  have tell : ∀ {a r : MVal} {name : Str}, tellAtt X d a name st w = some (r, st', w') → AllP w.p ∧ ∀ env, EnvOk env → GtE X env d a name st r st' := by
    intro a r name h
    unfold tellAtt at h
    split at h
    · cases h; exact p.say
    · cases h; exact ⟨p.say.1, fun env => p.say.2 env _⟩
    · cases h
  unfold prAtt at h
  split at h
  · split at h
    · rename_i hi
      split at h
      · rename_i hc
        simp only [Bool.and_eq_true] at hc
        split at h
        · rename_i ha
          split at h
          · rename_i hl
            split at h
            · rename_i hn
              cases h
              exact ⟨p.say.1, fun env _ => .own XO hi hl hc.1 hc.2 ha hn p.say.2⟩
            · cases h
          · rename_i hl
            split at h
            · split at h
              · rename_i hk
                cases h
                exact ⟨p, fun env _ => .cls XO hi hl hc.1 hc.2 ha hk.1 hk.2.1 hk.2.2 fun _ _ _ => ofVal_ok⟩
              · split at h
                · split at h
                  · rename_i hk
                    cases h
                    exact ⟨p, fun env _ => .bound XO hi hl hc.1 hc.2 ha hk.1 hk.2.1 hk.2.2.1 hk.2.2.2⟩
                  · cases h
                · cases h
            · cases h
        · cases h
      · cases h
    · cases h
  · split at h
    · rename_i e
      subst e
      split at h
      · rename_i hi
        cases h
        exact ⟨p, fun env _ => .append hi⟩
      · cases h
    · exact tell h
  · exact tell h

def tellMthS (X : SX) (d : Nat) (a : MVal) (name : Str) (st : St) (w : Wk) : Option (MVal × List MVal × Wk) :=
  match w.o with
  | .l (f :: fs) _ :: o => some (f, fs, Wk.say ⟨o, w.p⟩ (∀ env, EnvOk env → MtE X env d a name st f fs st))
  | _ => none
theorem tellMthS_ok {a f : MVal} {fs : List MVal} {name : Str} (h : tellMthS X d a name st w = some (f, fs, w')) (p : AllP w'.p) : AllP w.p ∧ ∀ env, EnvOk env → MtE X env d a name st f fs st := by
  unfold tellMthS at h
  split at h
  · cases h; exact p.say
  · cases h
def prMth (X : SX) (d : Nat) (a : MVal) (name : Str) (st : St) (w : Wk) : Option (MVal × List MVal × Wk) :=
  match a with
  | .insr C i => match st.led[i]? with
    | some (.dct ds) => if plainGet X.K C name = true then match ds.lookup name with
      | some v => if hasDictIn X.K C = true ∧ findIn X.K (.ref C) name = some none then some (v, [], w.say (v.handed = true)) else none
      | none => match findIn X.K (.ref C) name with
        | some (some (.ref f)) => if isFn X.K (.ref f) = true then some (.obj (.ref f), [.insr C i], w) else none
        | _ => none
      else none
    | _ => none
  | .ref i => match st.led[i]? with
    | some (.lst _) => if name = "append" then some (.obj (.builtin "list.append"), [.ref i], w) else if name = "pop" then some (.obj (.builtin "list.pop"), [.ref i], w) else tellMthS X d (.ref i) name st w
    | some (.dct _) => if name = "clear" then some (.obj (.builtin "dict.clear"), [.ref i], w) else tellMthS X d (.ref i) name st w
    | _ => none
  | .str x => if name = "join" then some (.obj (.builtin "str.join"), [.str x], w) else match w.o with
    | .v f _ :: o => some (f, [.str x], Wk.say ⟨o, w.p⟩ (∀ env st, EnvOk env → MtE X env d (.str x) name st f [.str x] st))
    | _ => none
  | a => match w.o with
    | .l (f :: fs) _ :: o => some (f, fs, Wk.say ⟨o, w.p⟩ (∀ env st, EnvOk env → MtE X env d a name st f fs st))
    | _ => none
theorem prMth_ok (XO : SXOk X) {a f : MVal} {fs : List MVal} {name : Str} (h : prMth X d a name st w = some (f, fs, w')) (p : AllP w'.p) : AllP w.p ∧ ∀ env, EnvOk env → MtE X env d a name st f fs st := by
  unfold prMth at h
  split at h
  · split at h
    · rename_i hi
      split at h
      · rename_i hc
        split at h
        · rename_i hl
          split at h
          · rename_i hk
            cases h
            exact ⟨p.say.1, fun env _ => .own XO hi hl hc hk.1 hk.2 p.say.2⟩
          · cases h
        · rename_i hl
          split at h
          · rename_i hf
            split at h
            · rename_i ht
              cases h
              exact ⟨p, fun env _ => .fn XO hi hl hc hf ht⟩
            · cases h
          · cases h
      · cases h
    · cases h
  · split at h
    · rename_i hi
      split at h
      · rename_i e; subst e; cases h; exact ⟨p, fun env _ => .append hi⟩
      · split at h
        · rename_i e; subst e; cases h; exact ⟨p, fun env _ => .pop hi⟩
        · exact tellMthS_ok h p
    · rename_i hi
      split at h
      · rename_i e; subst e; cases h; exact ⟨p, fun env _ => .clear hi⟩
      · exact tellMthS_ok h p
    · cases h
  · split at h
    · rename_i e; subst e; cases h; exact ⟨p, fun env _ => .join⟩
    · split at h
      · cases h; exact ⟨p.say.1, fun env => p.say.2 env _⟩
      · cases h
  · split at h
    · cases h; exact ⟨p.say.1, fun env => p.say.2 env _⟩
    · cases h

def prItr (X : SX) (d : Nat) (a : MVal) (st : St) (w : Wk) : Option (List MVal × Wk) :=
  match a with
  | .lst vs => some (vs, w)
  | .tup vs => some (vs, w)
  | .rng a b => some (intsL a (b - a).toNat, (((w.say (-(2 ^ 62) ≤ a)).say (a < 2 ^ 62)).say (-(2 ^ 62) ≤ b)).say (b < 2 ^ 62))
  | a => match w.o with
    | .l xs _ :: o => some (xs, Wk.say ⟨o, w.p⟩ (∀ env, EnvOk env → IterE X env d a xs st))
    | _ => none
theorem prItr_ok {a : MVal} {xs : List MVal} (h : prItr X d a st w = some (xs, w')) (p : AllP w'.p) : AllP w.p ∧ ∀ env, EnvOk env → IterE X env d a xs st := by
  unfold prItr at h
  split at h
  · cases h; exact ⟨p, fun env _ => .lst⟩
  · cases h; exact ⟨p, fun env _ => .tup⟩
  · cases h
    obtain ⟨p, p1⟩ := p.say
    obtain ⟨p, p2⟩ := p.say
    obtain ⟨p, p3⟩ := p.say
    obtain ⟨p, p4⟩ := p.say
    exact ⟨p, fun env _ => .rng p4 p3 p2 p1⟩
  · split at h
    · cases h; exact p.say
    · cases h

def pr (X : SX) (d : Nat) : Pr where
  bin := prBin X d
  cmp := prCmp X d
  tru := prTru X d
  iop := prIop X d
  itm := prItm X d
  app := prApp X d
  att := prAtt X d
  mth := prMth X d
  itr := prItr X d
theorem pr_ok (XO : SXOk X) : PrOk X d (pr X d) where
  bin := prBin_ok
  cmp := prCmp_ok
  tru := prTru_ok
  iop := prIop_ok
  itm := prItm_ok
  app := prApp_ok XO
  att := prAtt_ok XO
  mth := prMth_ok XO
  itr := prItr_ok
end
end Mine
end
section
open PySem PySem.W PySem.Calls PyProof.Rows
set_option linter.all false
set_option maxRecDepth 100000
namespace Mine
section
variable {X : SX} {G : Gt} {P : Pr} {r : Ev} {env : Env} {c : Cx} {d : Nat} {st st' st₁ st₂ : St} {w w' w₁ w₂ : Wk} {led led' : List MObj}

/-- a suite in which newer lists of the ledger may be frozen between two statements -/
def ExF (X : SX) (env : Env) (d n0 : Nat) (ts : List Stmt) (st : St) (f : MFlow) (st' : St) : Prop :=
  ∀ A fz kp kg ρ s, AOk A d → Rel X env fz kp kg ρ st s → n0 ≤ ρ.length → ∀ (Q : Flow → Shared → Prop) (E : Value → Shared → Prop),
    (∀ fz' ρ' a s', Rel X env fz' kp kg ρ' st' s' → (∀ a o, fz a = some o → fz' a = some o) → ρ'.take n0 = ρ.take n0 → n0 ≤ ρ'.length → FRel fz' ρ' f a → Q a s') → wpAny (model X.prog X.w) A (execs ts env) Q E s
theorem ExF.toL {ts : List Stmt} {f : MFlow} (h : ExF X env d st.led.length ts st f st') : ExL X env d ts st f st' := fun A fz kp kg ρ s ok R Q E q =>
  h A fz kp kg ρ s ok R (Nat.le_of_eq R.len.symm) Q E fun fz' ρ' a s' R' g1 g2 g3 hf => q _ _ _ _ R' ⟨g1, ρ'.drop st.led.length, by
    rw [← R.len] at g2 ⊢
    rw [List.take_length] at g2
    conv => lhs; rw [← List.take_append_drop ρ.length ρ', g2]⟩ hf
theorem ExF.nil {n0 : Nat} : ExF X env d n0 [] st .next st := fun A fz kp kg ρ s ok R hn Q E q => wpAny_execs_nil (q _ _ _ _ R (fun _ _ e => e) rfl hn rfl)
theorem take_app {α : Type} {a b : List α} {n : Nat} (h : n ≤ a.length) : (a ++ b).take n = a.take n := List.take_append_of_le_length h
theorem ExF.cons {n0 : Nat} {t : Stmt} {r : List Stmt} {f : MFlow} (h1 : ExS X env d t st .next st₁) (h2 : ExF X env d n0 r st₁ f st') : ExF X env d n0 (t :: r) st f st' :=
  fun A fz kp kg ρ s ok R hn Q E q => wpAny_execs_cons (h1 A fz kp kg ρ s ok R _ _ fun fz₁ ρ₁ va s₁ R₁ g₁ r₁ => by
    have e : va = .next := r₁
    subst e
    obtain ⟨g1, t, rfl⟩ := g₁
    exact h2 A fz₁ kp kg _ s₁ ok R₁ (by simp; omega) _ _ fun fz₂ ρ₂ vb s₂ R₂ k1 k2 k3 r₂ => q _ _ _ _ R₂ (fun a o e => k1 _ _ (g1 _ _ e)) (k2.trans (take_app hn)) k3 r₂)
theorem ExF.stop {n0 : Nat} {t : Stmt} {r : List Stmt} {f : MFlow} (h1 : ExS X env d t st f st') (hf : f ≠ .next) : ExF X env d n0 (t :: r) st f st' :=
  fun A fz kp kg ρ s ok R hn Q E q => ExL.stop h1 hf A fz kp kg ρ s ok R Q E fun fz₁ ρ₁ va s₁ R₁ g₁ r₁ => by
    obtain ⟨g1, t, rfl⟩ := g₁
    exact q _ _ _ _ R₁ g1 (take_app hn) (by simp; omega) r₁
theorem ExF.sub {n0 : Nat} {t : List Stmt} {f : MFlow} (h : ExF X env d n0 t st₁ f st') (s : Sub st₁ st) : ExF X env d n0 t st f st' := fun A fz kp kg ρ s' ok R => h A fz kp kg ρ s' ok (R.sub s)
theorem ExF.frz {n0 : Nat} {ts : List Stmt} {f : MFlow} {vs : List MVal} (he : st.led = led ++ [.lst vs]) (hlen : n0 ≤ led.length) (hb : belows led.length vs = true)
    (hall : (led.map (MObj.frz led.length (.lst vs))).all (MObj.refsLt led.length) = true) (hloc : (st.loc.all fun x => (frz1 led.length (.lst vs) x.2).refsLt led.length) = true) (hc : (st.cells.all fun x => decide (x.2 < led.length)) = true)
    (h : ExF X env d n0 ts ⟨st.loc.map fun x => (x.1, frz1 led.length (.lst vs) x.2), st.cells, led.map (MObj.frz led.length (.lst vs))⟩ f st') : ExF X env d n0 ts st f st' :=
  fun A fz kp kg ρ s ok R hn Q E q => by
    obtain ⟨fz', k1, k2, k3⟩ := R.frzL he hb hall hloc hc
    have hl : led.length ≤ ρ.length := by rw [R.len, he]; simp
    have ht : (ρ.take led.length).take n0 = ρ.take n0 := by rw [List.take_take, Nat.min_eq_left hlen]
    refine h A fz' kp kg _ s ok k3 (by rw [List.length_take]; omega) Q E fun fz₂ ρ₂ vb s₂ R₂ g1 g2 g3 r₂ => q _ _ _ _ R₂ (fun a o e => g1 _ _ (k1 _ _ e)) (g2.trans ht) g3 r₂

def frzAt (n0 : Nat) (st : St) (w : Wk) : Option (St × Wk) :=
  match w.o with
  | .z :: o => match st.led.getLast? with
    | some (.lst vs) => if n0 ≤ st.led.length - 1 then
        some (⟨st.loc.map fun x => (x.1, frz1 (st.led.length - 1) (.lst vs) x.2), st.cells, st.led.dropLast.map (MObj.frz (st.led.length - 1) (.lst vs))⟩,
          (((Wk.say ⟨o, w.p⟩ (belows (st.led.length - 1) vs = true)).say ((st.led.dropLast.map (MObj.frz (st.led.length - 1) (.lst vs))).all (MObj.refsLt (st.led.length - 1)) = true)).say
            ((st.loc.all fun x => (frz1 (st.led.length - 1) (.lst vs) x.2).refsLt (st.led.length - 1)) = true)).say ((st.cells.all fun x => decide (x.2 < st.led.length - 1)) = true)) else none
    | _ => none
  | .c st' :: o => some (st', Wk.say ⟨o, w.p⟩ (Sub st' st))
  | _ => some (st, w)
theorem frzAt_ok {n0 : Nat} (h : frzAt n0 st w = some (st₁, w')) (a : AllP w'.p) : AllP w.p ∧ ∀ {env ts f st'}, ExF X env d n0 ts st₁ f st' → ExF X env d n0 ts st f st' := by
  unfold frzAt at h
  split at h
  · split at h
    · rename_i vs e
      split at h
      · rename_i hn
        cases h
        obtain ⟨a, a1⟩ := a.say
        obtain ⟨a, a2⟩ := a.say
        obtain ⟨a, a3⟩ := a.say
        obtain ⟨a, a4⟩ := a.say
        have hne : st.led ≠ [] := by intro q; rw [q] at e; cases e
        have he : st.led = st.led.dropLast ++ [.lst vs] := by
          rw [List.getLast?_eq_some_iff] at e
          obtain ⟨ys, q⟩ := e
          rw [q]; simp
        have hl : st.led.dropLast.length = st.led.length - 1 := by simp
        refine ⟨a, fun h => ?_⟩
        exact ExF.frz he (hl ▸ hn) (hl ▸ a4) (hl ▸ a3) (hl ▸ a2) (hl ▸ a1) (hl ▸ h)
      · cases h
    · cases h
  · cases h; exact ⟨a.say.1, fun h => h.sub a.say.2⟩
  · cases h; exact ⟨a, fun h => h⟩
theorem ExF.app {n0 : Nat} {a b : List Stmt} {f : MFlow} (h1 : ExL X env d a st .next st₁) (h2 : ExF X env d n0 b st₁ f st') : ExF X env d n0 (a ++ b) st f st' :=
  fun A fz kp kg ρ s ok R hn Q E q => by
    rw [execs_app]
    refine wpAny_bind (h1 A fz kp kg ρ s ok R _ _ fun fz₁ ρ₁ va s₁ R₁ g₁ r₁ => ?_)
    have e : va = .next := r₁
    subst e
    obtain ⟨g1, t, rfl⟩ := g₁
    exact h2 A fz₁ kp kg _ s₁ ok R₁ (by simp; omega) _ _ fun fz₂ ρ₂ vb s₂ R₂ k1 k2 k3 r₂ => q _ _ _ _ R₂ (fun a o e => k1 _ _ (g1 _ _ e)) (k2.trans (take_app hn)) k3 r₂
theorem ExF.ofL {n0 : Nat} {a : List Stmt} {f : MFlow} (h1 : ExL X env d a st f st') : ExF X env d n0 a st f st' :=
  fun A fz kp kg ρ s ok R hn Q E q => h1 A fz kp kg ρ s ok R _ _ fun fz₁ ρ₁ va s₁ R₁ g₁ r₁ => by
    obtain ⟨g1, t, rfl⟩ := g₁
    exact q _ _ _ _ R₁ g1 (take_app hn) (by simp; omega) r₁
/-- statements that are told: how many are left out, how they end -/
def toldK (X : SX) (d : Nat) (c : Cx) (ts : List Stmt) (st : St) (w : Wk) : Option (Nat × MFlow × St × Wk) :=
  match w.o with
  | .k n f st' :: o => match f with
    | .next => some (n, .next, st', Wk.say ⟨o, w.p⟩ (∀ env, Is env c → ExL X env d (ts.take n) st .next st'))
    | f => some (ts.length, f, st', Wk.say ⟨o, w.p⟩ (∀ env, Is env c → ExL X env d ts st f st'))
  | _ => none
theorem toldK_ok {ts : List Stmt} {n : Nat} {f : MFlow} (h : toldK X d c ts st w = some (n, f, st', w')) (a : AllP w'.p) : AllP w.p ∧ ((f = .next ∧ ∀ env, Is env c → ExL X env d (ts.take n) st .next st') ∨ (f ≠ .next ∧ ∀ env, Is env c → ExL X env d ts st f st')) := by
  unfold toldK at h
  split at h
  · split at h
    · cases h; exact ⟨a.say.1, .inl ⟨rfl, a.say.2⟩⟩
    · rename_i hn; cases h; exact ⟨a.say.1, .inr ⟨fun e => hn e, a.say.2⟩⟩
  · cases h
def evF (X : SX) (d : Nat) (r : Ev) (c : Cx) (n0 : Nat) : Nat → List Stmt → St → Wk → Option (MFlow × St × Wk)
  | 0, _, _, _ => none
  | k + 1, ts, st, w => (frzAt n0 st w).bind fun (st, w) => match toldK X d c ts st w with
    | some (n, f, st, w) => match f with
      | .next => evF X d r c n0 k (ts.drop n) st w
      | f => some (f, st, w)
    | none => match ts with
      | [] => some (.next, st, w)
      | t :: ts => (r.S c t st w).bind fun (f, st, w) => match f with
        | .next => evF X d r c n0 k ts st w
        | f => some (f, st, w)
theorem evF_ok (R : EvOk X d r) {n0 : Nat} : ∀ {k : Nat} {ts : List Stmt} {st st' : St} {w w' : Wk} {f : MFlow}, evF X d r c n0 k ts st w = some (f, st', w') → AllP w'.p → AllP w.p ∧ ∀ env, Is env c → ExF X env d n0 ts st f st' := by
  intro k
  induction k with
  | zero => intro ts st st' w w' f h a; cases h
  | succ k ih =>
    intro ts st st' w w' f h a
    unfold evF at h
    obtain ⟨⟨s1, w1⟩, h1, h⟩ := bind_some h
    dsimp only at h
    split at h
    · rename_i n g s2 w2 h2
      split at h
      · obtain ⟨a2, r3⟩ := ih h a
        obtain ⟨a1, r2⟩ := toldK_ok h2 a2
        obtain ⟨a0, r1⟩ := frzAt_ok (X := X) (d := d) h1 a1
        refine ⟨a0, fun env I => r1 ?_⟩
        rcases r2 with ⟨_, r2⟩ | ⟨hn, _⟩
        · have := ExF.app (r2 env I) (r3 env I)
          rwa [List.take_append_drop] at this
        · exact absurd rfl hn
      · rename_i hn
        cases h
        obtain ⟨a1, r2⟩ := toldK_ok h2 a
        obtain ⟨a0, r1⟩ := frzAt_ok (X := X) (d := d) h1 a1
        refine ⟨a0, fun env I => r1 ?_⟩
        rcases r2 with ⟨e, _⟩ | ⟨_, r2⟩
        · exact absurd e (fun e => hn e)
        · exact .ofL (r2 env I)
    · split at h
      · cases h
        obtain ⟨a0, r1⟩ := frzAt_ok (X := X) (d := d) h1 a
        exact ⟨a0, fun env I => r1 .nil⟩
      · obtain ⟨⟨g, s2, w2⟩, h2, h⟩ := bind_some h
        dsimp only at h
        split at h
        · obtain ⟨a2, r3⟩ := ih h a
          obtain ⟨a1, r2⟩ := R.S h2 a2
          obtain ⟨a0, r1⟩ := frzAt_ok (X := X) (d := d) h1 a1
          exact ⟨a0, fun env I => r1 (.cons (r2 env I) (r3 env I))⟩
        · rename_i hn
          cases h
          obtain ⟨a1, r2⟩ := R.S h2 a
          obtain ⟨a0, r1⟩ := frzAt_ok (X := X) (d := d) h1 a1
          exact ⟨a0, fun env I => r1 (.stop (r2 env I) (fun e => hn e))⟩

-- how a call binds
inductive Tm where
  | arg (i : Nat) | kw (i : Nat) | val (v : Value)
def Tm.get (vs : List Value) (us : List Value) : Tm → Value
  | .arg i => vs.getD i .none
  | .kw i => us.getD i .none
  | .val v => v
def Tm.getM (vs : List MVal) (us : List (Str × MVal)) : Tm → MVal
  | .arg i => vs.getD i .none
  | .kw i => ((us.map (·.2)).getD i .none)
  | .val v => ofVal v
def allV : Nat → (List Value → Prop) → Prop
  | 0, P => P []
  | n + 1, P => ∀ v, allV n fun vs => P (v :: vs)
theorem allV.all : ∀ {n : Nat} {P : List Value → Prop} (h : allV n P) (vs : List Value), vs.length = n → P vs
  | 0, P, h, [], e => h
  | n + 1, P, h, v :: vs, e => (h v).all vs (by simpa using e)
theorem VRels.getD {fz : FH} {ρ : List Addr} : ∀ {ms : List MVal} {us : List Value} {k : Nat}, VRels fz ρ ms us → VRel fz ρ (ms.getD k .none) (us.getD k .none)
  | [], us, k, h => by simp only [VRels] at h; subst h; simp [VRel]
  | x :: xs, us, 0, h => by
    simp only [VRels] at h
    obtain ⟨u, r, rfl, h1, h2⟩ := h
    simpa using h1
  | x :: xs, us, k + 1, h => by
    simp only [VRels] at h
    obtain ⟨u, r, rfl, h1, h2⟩ := h
    simpa using VRels.getD (k := k) h2
theorem tms_rel {fz : FH} {ρ : List Addr} {args : List MVal} {kw : List (Str × MVal)} {vs us : List Value} (h1 : VRels fz ρ args vs) (h2 : VRels fz ρ (kw.map (·.2)) us) : ∀ tms : List (Str × Tm), VRels fz ρ ((tms.map fun t => (t.1, t.2.getM args kw)).map (·.2)) ((tms.map fun t => (t.1, t.2.get vs us)).map (·.2))
  | [] => by simp [VRels]
  | (x, t) :: r => by
    simp only [List.map_cons, VRels]
    refine ⟨_, _, rfl, ?_, tms_rel h1 h2 r⟩
    cases t with
    | arg i => exact h1.getD
    | kw i => exact h2.getD
    | val v => exact ofVal_ok
def bmT (args : List MVal) (kw : List (Str × MVal)) (tms : List (Str × Tm)) : List (Str × MVal) := tms.map fun t => (t.1, t.2.getM args kw)
theorem kvs_zip {fz : FH} {ρ : List Addr} {kw : List (Str × MVal)} {kvs : List (Str × Value)} (h : KRels fz ρ kw kvs) : kvs = (kw.map (·.1)).zip (kvs.map (·.2)) := by
  have h1 := h.1
  clear h
  rw [← h1]
  clear h1
  induction kvs with
  | nil => rfl
  | cons p r ih => simp only [List.map_cons, List.zip_cons_cons]; rw [← ih]
/-- the bindings of a def of the top -/
theorem BindsTo'.tm {fd : FuncData} {args : List MVal} {kw : List (Str × MVal)} (tms : List (Str × Tm))
    (h : allV args.length fun vs => allV kw.length fun us => ∀ S, peek X.K S (bindArgs fd ⟨vs, (kw.map (·.1)).zip us⟩) = some (tms.map fun t => (t.1, t.2.get vs us))) : BindsTo' X fd args kw (bmT args kw tms) := by
  intro fz ρ vs kvs hfz hv hk
  have h1 := (h.all vs (VRels.length hv)).all (kvs.map (·.2)) (by have := congrArg List.length hk.1; simpa using this)
  rw [← kvs_zip hk] at h1
  exact ⟨_, h1, by unfold bmT; simp [Function.comp_def], tms_rel hv hk.2 tms⟩
theorem BindsC.tm {F : CloF} {args : List MVal} {kw : List (Str × MVal)} (tms : List (Str × Tm))
    (h : ∀ clos doc pm cdv ctv, allV args.length fun vs => allV kw.length fun us => bindArgs (fnX F.name F.qual F.params F.body F.scope clos .none .none doc pm none cdv ctv) ⟨vs, (kw.map (·.1)).zip us⟩ = pure (tms.map fun t => (t.1, t.2.get vs us))) : BindsC F args kw (bmT args kw tms) := by
  intro fz ρ vs kvs clos doc pm cdv ctv hv hk
  have h1 := ((h clos doc pm cdv ctv).all vs (VRels.length hv)).all (kvs.map (·.2)) (by have := congrArg List.length hk.1; simpa using this)
  rw [← kvs_zip hk] at h1
  exact ⟨_, h1, by unfold bmT; simp [Function.comp_def], tms_rel hv hk.2 tms⟩

-- a call, walked
def codeA : Value → Option Addr
  | .ref c => some c
  | _ => none
def cxF (fd : FuncData) : Cx := ⟨fd.scope, codeA fd.code, fd.qualname ++ ".<locals>."⟩
def cxC (F : CloF) : Cx := ⟨F.scope, none, F.qual ++ ".<locals>."⟩
theorem cxF_is {fd : FuncData} (hk : fd.scope.kind = .function) (hg : fd.globals = mainGlobals) (hb : fd.builtins = builtinsNs) (L a : Addr) : Is (callEnvC fd L a) (cxF fd) where
  ok := ⟨hk, hg, hb⟩
  sc := rfl
  code := fun c h => by
    show fd.code = .ref c
    unfold cxF codeA at h
    dsimp only at h
    split at h
    · rename_i e; cases h; exact e
    · cases h
  qual := rfl
theorem cxC_is {F : CloF} (hk : F.scope.kind = .function) (L a c' : Addr) (clos : List (Str × Addr)) : Is (envX F.qual F.scope L a (.ref c') clos) (cxC F) where
  ok := ⟨hk, rfl, rfl⟩
  sc := rfl
  code := fun c h => by cases h
  qual := rfl
/-- where a call begins -/
def stF (fd : FuncData) (bm : List (Str × MVal)) (led : List MObj) : St :=
  ⟨bm.filter fun x => decide (fd.scope.names.lookup x.1 = some .local), cellsAt led.length (cellNames fd.scope.names), led ++ (cellNames fd.scope.names).map fun x => .cell (bm.lookup x)⟩
def fnChk (sc : Scope) (names : List Str) : Bool :=
  !sc.isGenerator && decide (cellNames sc.names).Nodup && ((cellNames sc.names).all fun x => decide (sc.names.lookup x = some .cell)) &&
  (names.all fun x => decide (sc.names.lookup x = some .local) || (decide (sc.names.lookup x = some .cell) && (cellNames sc.names).contains x)) && decide names.Nodup
abbrev runF (X : SX) (d : Nat) (G : Gt) (n : Nat) (c : Cx) (n0 : Nat) (b : List Stmt) (st : St) (o : List Ans) : Option (MFlow × St × Wk) := evF X d (evN (pr X d) X d G n) c n0 n b st ⟨o, []⟩
theorem ExF.len {n0 : Nat} {ts : List Stmt} {f : MFlow} (h : ExF X env d n0 ts st f st') (hn : n0 = st.led.length) : ExL X env d ts st f st' := by subst hn; exact h.toL
theorem CallsTo.run (XO : SXOk X) (GO : GtOk X G) {f : Addr} {fd : FuncData} {b : List Stmt} {args : List MVal} {kw : List (Str × MVal)} {r : MVal} (n : Nat) (o : List Ans) (tms : List (Str × Tm)) {fl : MFlow} {st' : St} {ps : List Prop} (O : FnOk X f fd b)
    (hb : allV args.length fun vs => allV kw.length fun us => ∀ S, peek X.K S (bindArgs fd ⟨vs, (kw.map (·.1)).zip us⟩) = some (tms.map fun t => (t.1, t.2.get vs us)))
    (hchk : fnChk fd.scope (tms.map (·.1)) = true) (hrun : runF X d G n (cxF fd) (stF fd (bmT args kw tms) led).led.length b (stF fd (bmT args kw tms) led) o = some (fl, st', ⟨[], ps⟩)) (hp : AllP ps) (hfl : flowRes fl = some r) :
    CallsTo X (d + 1) (.obj (.ref f)) args kw led r st'.led := by
  unfold fnChk at hchk
  simp only [Bool.and_eq_true, Bool.not_eq_true', decide_eq_true_eq] at hchk
  obtain ⟨⟨⟨⟨c1, c2⟩, c3⟩, c4⟩, c5⟩ := hchk
  have hm : (bmT args kw tms).map (·.1) = tms.map (·.1) := by unfold bmT; simp [Function.comp_def]
  refine CallsTo.fnC XO O c1 (.tm tms hb) c2 c3 ?_ (hm ▸ c5) (fun L a => ⟨st', ?_, rfl⟩) hfl
  · rw [← hm, List.all_map] at c4
    exact c4
  · have := (evF_ok (evN_ok XO GO (pr_ok XO) n) hrun hp).2 (callEnvC fd L a) (cxF_is O.kind O.glob O.blt L a)
    exact this.toL
def cloChk (sc : Scope) (names : List Str) : Bool :=
  !sc.isGenerator && !sc.isCoroutine && decide (sc.kind = .function) && (sc.names.all fun x => x.2 != .cell) && (names.all fun x => decide (sc.names.lookup x = some .local)) && decide names.Nodup
theorem CallsTo.runC (XO : SXOk X) (GO : GtOk X G) {F : CloF} {cs : List (Str × Nat)} {args : List MVal} {kw : List (Str × MVal)} {r : MVal} (n : Nat) (o : List Ans) (tms : List (Str × Tm)) {fl : MFlow} {st' : St} {ps : List Prop}
    (hb : ∀ clos doc pm cdv ctv, allV args.length fun vs => allV kw.length fun us => bindArgs (fnX F.name F.qual F.params F.body F.scope clos .none .none doc pm none cdv ctv) ⟨vs, (kw.map (·.1)).zip us⟩ = pure (tms.map fun t => (t.1, t.2.get vs us)))
    (hchk : cloChk F.scope (tms.map (·.1)) = true) (hrun : runF X d G n (cxC F) led.length F.body ⟨bmT args kw tms, cs, led⟩ o = some (fl, st', ⟨[], ps⟩)) (hp : AllP ps) (hfl : flowRes fl = some r) :
    CallsTo X (d + 1) (.clo F cs) args kw led r st'.led := by
  unfold cloChk at hchk
  simp only [Bool.and_eq_true, Bool.not_eq_true', decide_eq_true_eq] at hchk
  obtain ⟨⟨⟨⟨⟨c1, c2⟩, c3⟩, c4⟩, c5⟩, c6⟩ := hchk
  have hm : (bmT args kw tms).map (·.1) = tms.map (·.1) := by unfold bmT; simp [Function.comp_def]
  refine CallsTo.clo XO c1 c2 c3 c4 (.tm tms hb) ?_ (hm ▸ c6) (fun L a c' clos => ⟨st', ?_, rfl⟩) hfl
  · rw [← hm, List.all_map] at c5
    exact c5
  · have := (evF_ok (evN_ok XO GO (pr_ok XO) n) hrun hp).2 (envX F.qual F.scope L a (.ref c') clos) (cxC_is c3 L a c' clos)
    exact ExF.toL (st := ⟨bmT args kw tms, cs, led⟩) this

/-- what the callee does not know of -/
theorem CallsTo.frame {f : MVal} {args : List MVal} {kw : List (Str × MVal)} {r : MVal} (h : CallsTo X d f args kw led r led') (he : led'.length = led.length) (ext : List MObj) (hr : f.refsLt led.length = true) (ha : belows led.length args = true) (hk : belows led.length (kw.map (·.2)) = true) (hl : led.all (MObj.refsLt led.length) = true) :
    CallsTo X d f args kw (led ++ ext) r (led' ++ ext) := by
  intro A fz kp kg ρ s fv vs kvs Rz ok R hf hv hkv q
  -- what lies beyond is kept as it is
  have RD := R.drop led.length (by simp) (by rw [List.take_left']; exact hl; rfl)
  rw [List.take_left' rfl] at RD
  let kp' : FH := fun a => if a ∈ ρ.drop led.length then s.heap.get? a else kp a
  have hnd : ∀ a, a ∈ ρ.take led.length → a ∉ ρ.drop led.length := by
    intro a h1 h2
    have := R.nd
    rw [← List.take_append_drop led.length ρ, List.nodup_append] at this
    exact this.2.2 a h1 a h2 rfl
  have RK : LRel X fz kp' kg (ρ.take led.length) led s := { RD with
    ikp := fun a o e => by
      dsimp only [kp'] at e
      split at e
      · exact e
      · exact R.ikp a o e
    off := fun a ha => ⟨(RD.off a ha).1, by dsimp only [kp']; rw [if_neg (hnd a ha)]; exact (RD.off a ha).2.1, (RD.off a ha).2.2⟩
    offT := fun q hq => ⟨(R.offT q hq).1, by dsimp only [kp']; rw [if_neg (fun hm => (R.off _ (List.mem_of_mem_drop hm)).2.2 q hq rfl)]; exact (R.offT q hq).2⟩
    dis := fun a o e => by
      dsimp only [kp'] at e
      split at e
      · rename_i hm; exact (R.off a (List.mem_of_mem_drop hm)).1
      · exact R.dis a o e }
  refine h A fz kp' kg _ s fv vs kvs Rz ok RK (VRel.take _ _ hr hf) (VRels.take _ _ ha hv) ⟨hkv.1, VRels.take _ _ hk hkv.2⟩ fun fz' ρ' v s' R' g hv' => ?_
  obtain ⟨g1, t, rfl⟩ := g
  have ht : t = [] := by
    have h1 := R'.len
    have h2 := R.len
    rw [List.length_append, List.length_take, he, h2] at h1
    simp only [List.length_append] at h1
    exact List.length_eq_zero_iff.mp (by omega)
  subst ht
  rw [List.append_nil] at R' hv'
  have hl' : (ρ.take led.length).length = led.length := by rw [List.length_take, R.len]; simp
  have split := List.take_append_drop led.length ρ
  have gg : Grow fz' (ρ.take led.length) fz' ρ := ⟨fun _ _ e => e, ρ.drop led.length, split.symm⟩
  have kpE : ∀ a, a ∈ ρ.drop led.length → s'.heap.get? a = s.heap.get? a := fun a ha => by
    obtain ⟨i, hi, rfl⟩ := List.getElem_of_mem ha
    have hi2 : i < ext.length := by
      rw [List.length_drop, R.len] at hi
      simp only [List.length_append] at hi
      omega
    obtain ⟨o, e, _⟩ := R.ild (led.length + i) ((ρ.drop led.length)[i]) ext[i] (by rw [← List.getElem?_drop, List.getElem?_eq_getElem hi]) (by rw [List.getElem?_append_right (by omega)]; simp [hi2])
    rw [e]
    refine R'.ikp _ _ ?_
    dsimp only [kp']
    rw [if_pos (List.getElem_mem hi)]
    exact e
  refine q fz' ρ v s' { R' with
    ikp := fun a o e => R'.ikp a o (by
      dsimp only [kp']
      split
      · rename_i hm
        have := (R.off a (List.mem_of_mem_drop hm)).2.1
        rw [this] at e; cases e
      · exact e)
    len := by rw [R.len]; simp [he]
    ild := fun i a m e1 e2 => by
      by_cases hi : i < led.length
      · rw [List.getElem?_append_left (by omega)] at e2
        obtain ⟨o, k1, k2⟩ := R'.ild i a m (by rw [List.getElem?_take, if_pos hi]; exact e1) e2
        exact ⟨o, k1, ORel.grow gg _ _ k2⟩
      · rw [List.getElem?_append_right (by omega)] at e2
        obtain ⟨o, k1, k2⟩ := R.ild i a m e1 (by rw [List.getElem?_append_right (by omega)]; rw [he] at e2; exact e2)
        refine ⟨o, ?_, ORel.grow ⟨g1, [], by simp⟩ _ _ k2⟩
        rw [kpE a]
        · exact k1
        · have : ρ.drop led.length = ρ.drop led.length := rfl
          refine List.mem_of_getElem? (i := i - led.length) ?_
          rw [List.getElem?_drop]
          have : led.length + (i - led.length) = i := by omega
          rw [this]; exact e1
    nd := R.nd
    off := fun a ha => by
      rw [← split] at ha
      rcases List.mem_append.mp ha with h1 | h1
      · refine ⟨(R'.off a h1).1, ?_, (R'.off a h1).2.2⟩
        exact (R.off a (List.mem_of_mem_take h1)).2.1
      · refine ⟨?_, (R.off a (List.mem_of_mem_drop h1)).2.1, (R.off a (List.mem_of_mem_drop h1)).2.2⟩
        cases hz : fz' a with
        | none => rfl
        | some o =>
          exfalso
          obtain ⟨o', e'⟩ : ∃ o', s.heap.get? a = some o' := by
            obtain ⟨i, hi, rfl⟩ := List.getElem_of_mem h1
            have hi2 : i < ext.length := by
              rw [List.length_drop, R.len] at hi
              simp only [List.length_append] at hi
              omega
            obtain ⟨o, e, _⟩ := R.ild (led.length + i) ((ρ.drop led.length)[i]) ext[i] (by rw [← List.getElem?_drop, List.getElem?_eq_getElem hi]) (by rw [List.getElem?_append_right (by omega)]; simp [hi2])
            exact ⟨o, e⟩
          have := R'.dis a o' (by dsimp only [kp']; rw [if_pos h1]; exact e')
          rw [hz] at this; cases this
    offT := fun q hq => ⟨(R'.offT q hq).1, (R.offT q hq).2⟩
    dis := fun a o e => R'.dis a o (by
      dsimp only [kp']
      split
      · rename_i hm
        have := (R.off a (List.mem_of_mem_drop hm)).2.1
        rw [this] at e; cases e
      · exact e) } ⟨g1, [], by simp⟩ (VRel.grow gg _ _ hv')
end
end Mine
end
section
open PySem PySem.W PySem.Calls PyProof.Rows
set_option linter.all false
set_option maxRecDepth 100000
namespace Mine

mutual
/-- the same value, where the ledger begins n later -/
def MVal.sh (n : Nat) : MVal → MVal
  | .tup vs => .tup (shs n vs)
  | .lst vs => .lst (shs n vs)
  | .dct ks vs => .dct ks (shs n vs)
  | .ref i => .ref (n + i)
  | .bm id s => .bm id (s.sh n)
  | .inst C ks vs => .inst C ks (shs n vs)
  | .insr C i => .insr C (n + i)
  | .clo F cs => .clo F (cs.map fun x => (x.1, n + x.2))
  | .none => .none
  | .bool b => .bool b
  | .int i => .int i
  | .str x => .str x
  | .obj v => .obj v
  | .rng a b => .rng a b
  | .gen g => .gen g
  | .fo T vs => .fo T (shs n vs)
def shs (n : Nat) : List MVal → List MVal
  | [] => []
  | x :: xs => x.sh n :: shs n xs
end
def MObj.sh (n : Nat) : MObj → MObj
  | .lst vs => .lst (shs n vs)
  | .cell none => .cell none
  | .cell (some v) => .cell (some (v.sh n))
  | .dct ds => .dct (ds.map fun x => (x.1, x.2.sh n))
theorem CRel.sh {ρ : List Addr} {n : Nat} : ∀ (cs : List (Str × Nat)) (l : List (Str × Addr)), CRel ρ (cs.map fun x => (x.1, n + x.2)) l ↔ CRel (ρ.drop n) cs l
  | [], l => Iff.rfl
  | (x, k) :: r, l => by
    simp only [List.map_cons, CRel, List.getElem?_drop]
    constructor
    · rintro ⟨a, t, e, h1, h2⟩; exact ⟨a, t, e, h1, (CRel.sh r t).mp h2⟩
    · rintro ⟨a, t, e, h1, h2⟩; exact ⟨a, t, e, h1, (CRel.sh r t).mpr h2⟩
mutual
theorem VRel.sh {fz : FH} {ρ : List Addr} {n : Nat} : ∀ (m : MVal) (v : Value), VRel fz ρ (m.sh n) v ↔ VRel fz (ρ.drop n) m v
  | .none, v => by simp [VRel, MVal.sh]
  | .bool b, v => by simp [VRel, MVal.sh]
  | .int i, v => by simp [VRel, MVal.sh]
  | .str s, v => by simp [VRel, MVal.sh]
  | .tup vs, v => by simp only [MVal.sh, VRel, VRels.sh vs]
  | .lst vs, v => by simp only [MVal.sh, VRel, VRels.sh vs]
  | .dct ks vs, v => by simp only [MVal.sh, VRel, VRels.sh vs]
  | .ref i, v => by simp only [MVal.sh, VRel, List.getElem?_drop]
  | .obj v', v => by simp [VRel, MVal.sh]
  | .bm id self, v => by simp only [MVal.sh, VRel, VRel.sh self]
  | .inst C ks vs, v => by simp only [MVal.sh, VRel, VRels.sh vs]
  | .rng a b, v => by simp [VRel, MVal.sh]
  | .insr C i, v => by simp only [MVal.sh, VRel, List.getElem?_drop]
  | .clo F cs, v => by simp only [MVal.sh, VRel, CRel.sh]
  | .gen k, v => by simp [VRel, MVal.sh]
  | .fo T vs, v => by simp only [MVal.sh, VRel, VRels.sh vs]
theorem VRels.sh {fz : FH} {ρ : List Addr} {n : Nat} : ∀ (ms : List MVal) (vs : List Value), VRels fz ρ (shs n ms) vs ↔ VRels fz (ρ.drop n) ms vs
  | [], vs => by simp [VRels, shs]
  | x :: xs, vs => by
    simp only [shs, VRels]
    constructor
    · rintro ⟨v, r, e, h1, h2⟩; exact ⟨v, r, e, (VRel.sh x v).mp h1, (VRels.sh xs r).mp h2⟩
    · rintro ⟨v, r, e, h1, h2⟩; exact ⟨v, r, e, (VRel.sh x v).mpr h1, (VRels.sh xs r).mpr h2⟩
end
theorem DRel.sh {fz : FH} {ρ : List Addr} {n : Nat} : ∀ (m : List (Str × MVal)) (l : List DictEntry), DRel fz ρ (m.map fun x => (x.1, x.2.sh n)) l ↔ DRel fz (ρ.drop n) m l
  | [], _ => Iff.rfl
  | (k, v) :: r, _ => by
    simp only [List.map_cons, DRel]
    constructor
    · rintro ⟨h, t, u, es, e, h1, h2⟩; exact ⟨h, t, u, es, e, (VRel.sh v u).mp h1, (DRel.sh r es).mp h2⟩
    · rintro ⟨h, t, u, es, e, h1, h2⟩; exact ⟨h, t, u, es, e, (VRel.sh v u).mpr h1, (DRel.sh r es).mpr h2⟩
theorem ORel.sh {fz : FH} {ρ : List Addr} {n : Nat} : ∀ (m : MObj) (o : Obj), ORel fz ρ (m.sh n) o ↔ ORel fz (ρ.drop n) m o
  | .lst vs, o => by simp only [MObj.sh, ORel, VRels.sh]
  | .cell none, o => by simp only [MObj.sh, ORel]
  | .cell (some v), o => by simp only [MObj.sh, ORel, VRel.sh]
  | .dct ds, o => by simp only [MObj.sh, ORel, DRel.sh]

theorem shs_map {n : Nat} : ∀ (kw : List (Str × MVal)), (kw.map fun x => (x.1, x.2.sh n)).map (·.2) = shs n (kw.map (·.2))
  | [] => rfl
  | p :: r => by simp only [List.map_cons, shs]; rw [shs_map r]

section
variable {X : SX} {d : Nat} {fz kp : FH} {kg : Nat → Option GenState} {ρ : List Addr} {led led' pre : List MObj} {s : Shared}

theorem LRel.has (R : LRel X fz kp kg ρ led s) {a : Addr} (h : a ∈ ρ) : ∃ o, s.heap.get? a = some o := by
  obtain ⟨i, hi, rfl⟩ := List.getElem_of_mem h
  have hl : i < led.length := R.len ▸ hi
  obtain ⟨o, e, _⟩ := R.ild i ρ[i] led[i] (List.getElem?_eq_getElem hi) (List.getElem?_eq_getElem hl)
  exact ⟨o, e⟩

/-- the callee's ledger is the last part of the caller's -/
theorem CallsTo.shift {f : MVal} {args : List MVal} {kw : List (Str × MVal)} {r : MVal} (h : CallsTo X d f args kw led r led') (pre : List MObj) :
    CallsTo X d (f.sh pre.length) (shs pre.length args) (kw.map fun x => (x.1, x.2.sh pre.length)) (pre ++ led.map (MObj.sh pre.length)) (r.sh pre.length) (pre ++ led'.map (MObj.sh pre.length)) := by
  intro A fz kp kg ρ s fv vs kvs Rz ok R hf hv hkv q
  let n := pre.length
  have hn : n ≤ ρ.length := by rw [R.len]; simp [n]
  have split : ρ.take n ++ ρ.drop n = ρ := List.take_append_drop n ρ
  let kp' : FH := fun a => if a ∈ ρ.take n then s.heap.get? a else kp a
  have hnd : ∀ a, a ∈ ρ.drop n → a ∉ ρ.take n := by
    intro a h1 h2
    have := R.nd
    rw [← split, List.nodup_append] at this
    exact this.2.2 a h2 a h1 rfl
  have RK : LRel X fz kp' kg (ρ.drop n) led s := { R with
    ikp := fun a o e => by
      dsimp only [kp'] at e
      split at e
      · exact e
      · exact R.ikp a o e
    len := by rw [List.length_drop, R.len]; simp [n]
    ild := fun i a m e1 e2 => by
      rw [List.getElem?_drop] at e1
      obtain ⟨o, k1, k2⟩ := R.ild (n + i) a (m.sh n) e1 (by rw [List.getElem?_append_right (by omega)]; simp [n, e2])
      exact ⟨o, k1, (ORel.sh _ _).mp k2⟩
    nd := R.nd.sublist (List.drop_sublist n ρ)
    off := fun a ha => ⟨(R.off a (List.mem_of_mem_drop ha)).1, by dsimp only [kp']; rw [if_neg (hnd a ha)]; exact (R.off a (List.mem_of_mem_drop ha)).2.1, (R.off a (List.mem_of_mem_drop ha)).2.2⟩
    offT := fun q hq => ⟨(R.offT q hq).1, by dsimp only [kp']; rw [if_neg (fun hm => (R.off _ (List.mem_of_mem_take hm)).2.2 q hq rfl)]; exact (R.offT q hq).2⟩
    dis := fun a o e => by
      dsimp only [kp'] at e
      split at e
      · rename_i hm; exact (R.off a (List.mem_of_mem_take hm)).1
      · exact R.dis a o e }
  have hk' : KRels fz (ρ.drop n) kw kvs := by
    obtain ⟨k1, k2⟩ := hkv
    refine ⟨by rw [k1]; simp [Function.comp_def], ?_⟩
    rw [shs_map] at k2
    exact (VRels.sh _ _).mp k2
  refine h A fz kp' kg _ s fv vs kvs Rz ok RK ((VRel.sh _ _).mp hf) ((VRels.sh _ _).mp hv) hk' fun fz' ρ' v s' R' g hv' => ?_
  obtain ⟨g1, t, rfl⟩ := g
  have hl : (ρ.take n).length = n := by rw [List.length_take]; omega
  have eρ : ρ ++ t = ρ.take n ++ (ρ.drop n ++ t) := by rw [← List.append_assoc, split]
  have ed : (ρ ++ t).drop n = ρ.drop n ++ t := by rw [List.drop_append_of_le_length hn]
  have kpE : ∀ a, a ∈ ρ.take n → ∃ o, s.heap.get? a = some o ∧ s'.heap.get? a = some o ∧ fz' a = none := fun a ha => by
    obtain ⟨o, e⟩ := R.has (List.mem_of_mem_take ha)
    have hk : kp' a = some o := by dsimp only [kp']; rw [if_pos ha]; exact e
    exact ⟨o, e, R'.ikp _ _ hk, R'.dis _ _ hk⟩
  refine q fz' (ρ ++ t) v s' { R' with
    ikp := fun a o e => R'.ikp a o (by
      dsimp only [kp']
      split
      · rename_i hm
        have := (R.off a (List.mem_of_mem_take hm)).2.1
        rw [this] at e; cases e
      · exact e)
    len := by
      have h1 := R'.len
      rw [eρ, List.length_append, h1, hl]; simp [n]
    ild := fun i a m e1 e2 => by
      by_cases hi : i < n
      · rw [List.getElem?_append_left (by omega)] at e1
        rw [List.getElem?_append_left hi] at e2
        obtain ⟨o, k1, k2⟩ := R.ild i a m e1 (by rw [List.getElem?_append_left hi]; exact e2)
        have ha : a ∈ ρ.take n := List.mem_of_getElem? (i := i) (by rw [List.getElem?_take, if_pos hi]; exact e1)
        obtain ⟨o', k3, k4, _⟩ := kpE a ha
        rw [k1] at k3; cases k3
        exact ⟨o, k4, ORel.grow ⟨g1, t, rfl⟩ _ _ k2⟩
      · rw [List.getElem?_append_right (by show n ≤ i; omega)] at e2
        obtain ⟨m', e3, rfl⟩ := Option.map_eq_some_iff.mp (by rw [List.getElem?_map] at e2; exact e2)
        obtain ⟨o, k1, k2⟩ := R'.ild (i - n) a m' (by
          rw [← ed, List.getElem?_drop]
          have : n + (i - n) = i := by omega
          rw [this]; exact e1) e3
        exact ⟨o, k1, (ORel.sh _ _).mpr (by rw [ed]; exact k2)⟩
    nd := by
      rw [eρ, List.nodup_append]
      refine ⟨R.nd.sublist (List.take_sublist n ρ), R'.nd, fun a ha b hb e => ?_⟩
      subst e
      obtain ⟨o, k1, k2, k3⟩ := kpE a ha
      have := (R'.off a hb).2.1
      dsimp only [kp'] at this
      rw [if_pos ha, k1] at this; cases this
    off := fun a ha => by
      rw [eρ] at ha
      rcases List.mem_append.mp ha with h1 | h1
      · obtain ⟨o, k1, k2, k3⟩ := kpE a h1
        exact ⟨k3, (R.off a (List.mem_of_mem_take h1)).2.1, (R.off a (List.mem_of_mem_take h1)).2.2⟩
      · obtain ⟨k1, k2, k3⟩ := R'.off a h1
        refine ⟨k1, ?_, k3⟩
        dsimp only [kp'] at k2
        split at k2
        · rename_i hm
          exact (R.off a (List.mem_of_mem_take hm)).2.1
        · exact k2
    offT := fun q hq => ⟨(R'.offT q hq).1, (R.offT q hq).2⟩
    dis := fun a o e => R'.dis a o (by
      dsimp only [kp']
      split
      · rename_i hm
        have := (R.off a (List.mem_of_mem_take hm)).2.1
        rw [this] at e; cases e
      · exact e) } ⟨g1, t, rfl⟩ ((VRel.sh _ _).mpr (by show VRel fz' ((ρ ++ t).drop n) r v; rw [ed]; exact hv'))
end
end Mine
end
section
open PySem PySem.W PySem.Calls PyProof.Rows
set_option linter.all false
set_option maxRecDepth 100000
namespace Mine
section
variable {X : SX} {G : Gt} {P : Pr} {r : Ev} {env : Env} {c : Cx} {d : Nat} {st st' st₁ st₂ : St} {led led' : List MObj}
def out3 (x : Option (MFlow × St × Wk)) : Option (MFlow × List MObj × Wk) := x.map fun x => (x.1, x.2.1.led, x.2.2)
theorem CallsTo.run2 (XO : SXOk X) (GO : GtOk X G) {f : Addr} {fd : FuncData} {b : List Stmt} {args : List MVal} {kw : List (Str × MVal)} {r : MVal} (n : Nat) (o : List Ans) (tms : List (Str × Tm)) (fl : MFlow) (ps : List Prop) (O : FnOk X f fd b)
    (hb : allV args.length fun vs => allV kw.length fun us => ∀ S, peek X.K S (bindArgs fd ⟨vs, (kw.map (·.1)).zip us⟩) = some (tms.map fun t => (t.1, t.2.get vs us)))
    (hchk : fnChk fd.scope (tms.map (·.1)) = true) (hrun : out3 (runF X d G n (cxF fd) (stF fd (bmT args kw tms) led).led.length b (stF fd (bmT args kw tms) led) o) = some (fl, led', ⟨[], ps⟩)) (hp : AllP ps) (hfl : flowRes fl = some r) :
    CallsTo X (d + 1) (.obj (.ref f)) args kw led r led' := by
  obtain ⟨⟨fl', st', w'⟩, h1, h2⟩ := map_some hrun
  cases h2
  exact CallsTo.run XO GO n o tms O hb hchk h1 hp hfl
theorem CallsTo.runC2 (XO : SXOk X) (GO : GtOk X G) {F : CloF} {cs : List (Str × Nat)} {args : List MVal} {kw : List (Str × MVal)} {r : MVal} (n : Nat) (o : List Ans) (tms : List (Str × Tm)) (fl : MFlow) (ps : List Prop)
    (hb : ∀ clos doc pm cdv ctv, allV args.length fun vs => allV kw.length fun us => bindArgs (fnX F.name F.qual F.params F.body F.scope clos .none .none doc pm none cdv ctv) ⟨vs, (kw.map (·.1)).zip us⟩ = pure (tms.map fun t => (t.1, t.2.get vs us)))
    (hchk : cloChk F.scope (tms.map (·.1)) = true) (hrun : out3 (runF X d G n (cxC F) led.length F.body ⟨bmT args kw tms, cs, led⟩ o) = some (fl, led', ⟨[], ps⟩)) (hp : AllP ps) (hfl : flowRes fl = some r) :
    CallsTo X (d + 1) (.clo F cs) args kw led r led' := by
  obtain ⟨⟨fl', st', w'⟩, h1, h2⟩ := map_some hrun
  cases h2
  exact CallsTo.runC XO GO n o tms hb hchk h1 hp hfl
/-- a suite, walked -/
theorem ExL.run (XO : SXOk X) (GO : GtOk X G) (n : Nat) (o : List Ans) {b : List Stmt} {fl : MFlow} (ps : List Prop) (h : (evN (pr X d) X d G n).B c b st ⟨o, []⟩ = some (fl, st', ⟨[], ps⟩)) (hp : AllP ps) (I : Is env c) : ExL X env d b st fl st' :=
  ((evN_ok XO GO (pr_ok XO) n).B h hp).2 env I
theorem EvE.run (XO : SXOk X) (GO : GtOk X G) (n : Nat) (o : List Ans) {e : PySem.Expr} {v : MVal} (ps : List Prop) (h : (evN (pr X d) X d G n).E c e st ⟨o, []⟩ = some (v, st', ⟨[], ps⟩)) (hp : AllP ps) (I : Is env c) : EvE X env d e st v st' :=
  ((evN_ok XO GO (pr_ok XO) n).E h hp).2 env I
theorem TsE.run (XO : SXOk X) (GO : GtOk X G) (n : Nat) (o : List Ans) {e : PySem.Expr} {v : Bool} (ps : List Prop) (h : (evN (pr X d) X d G n).T c e st ⟨o, []⟩ = some (v, st', ⟨[], ps⟩)) (hp : AllP ps) (I : Is env c) : TsE X env d e st v st' :=
  ((evN_ok XO GO (pr_ok XO) n).T h hp).2 env I
theorem StoreE.run (XO : SXOk X) (GO : GtOk X G) (n : Nat) (o : List Ans) {e : PySem.Expr} {v : MVal} (ps : List Prop) (h : (evN (pr X d) X d G n).A c e v st ⟨o, []⟩ = some (st', ⟨[], ps⟩)) (hp : AllP ps) (I : Is env c) : StoreE X env d e v st st' :=
  ((evN_ok XO GO (pr_ok XO) n).A h hp).2 env I
theorem ExS.run (XO : SXOk X) (GO : GtOk X G) (n : Nat) (o : List Ans) {e : Stmt} {fl : MFlow} (ps : List Prop) (h : (evN (pr X d) X d G n).S c e st ⟨o, []⟩ = some (fl, st', ⟨[], ps⟩)) (hp : AllP ps) (I : Is env c) : ExS X env d e st fl st' :=
  ((evN_ok XO GO (pr_ok XO) n).S h hp).2 env I
end
theorem seqIdx_nat {i n : Nat} (h : i < n) : seqIndex? (i : Int) n = some i := by
  have := seqIdx_pos (k := (i : Int)) (n := n) (by omega) (by omega)
  simpa using this
end Mine
end
section
open PySem PySem.W PySem.Calls PyProof.Rows
set_option linter.all false
set_option maxRecDepth 100000
namespace Mine

abbrev wsCode : Array Nat := #[14, 4, 0, 0, 4294967295, 24, 16, 0, 4294967295, 13, 11, 9, 9728, 1, 0, 0, 0, 0, 0, 0, 0, 1, 1]
theorem exec_repOne {m : Sre.M} {n : Nat} {seen : Sre.Seen} (h0 : Sre.ops[m.word 0]? = some .REPEAT_ONE) (hl : ¬ ((m.word 2 : Nat) : Int) > (m.lim : Int) - m.pos)
    (hrun : Sre.run m.code m.text (m.pc + 4) (min (m.word 3) ((m.lim : Int) - m.pos).toNat) m.pos 0 ((m.seen.add (m.word 0)).add (m.word 4)) = .ok (n, seen)) (hn : ¬ n < m.word 2) :
    m.exec = Sre.M.afterRun { m with seen := seen, pos := m.pos + n } .giveBack n (Sre.M.keep { m with seen := seen, pos := m.pos + n } m.inner.isSome) := by
  unfold Sre.M.exec
  rw [h0]
  dsimp only
  refine (if_neg hl).trans ?_
  generalize hr : Sre.run m.code m.text (m.pc + 4) _ m.pos 0 _ = r
  have hr' : r = .ok (n, seen) := hr.symm.trans hrun
  subst hr'
  dsimp only
  exact if_neg hn
theorem exec_success {m : Sre.M} (h0 : Sre.ops[m.word 0]? = some .SUCCESS) (h1 : m.wholeText = false) (h2 : m.mustAdvance = false) : m.exec = Sre.M.say { m with seen := m.seen.add (m.word 0), handed := m.pos } true := by
  unfold Sre.M.exec
  rw [h0]
  dsimp only
  rw [h1, h2]
  simp
/-- the Sre.run of blanks from a place on -/
def isWs (c : Nat) : Bool := c == 32 || c == 9 || c == 10 || c == 13
theorem wsRun {text : Array Nat} {pos lim n : Nat} {seen' : Sre.Seen} (hp : pos ≤ lim) (hr : Sre.run wsCode text 9 (min 4294967295 (lim - pos)) pos 0 (((({} : Sre.Seen).add 14).add 24).add 13) = .ok (n, seen')) :
    ∃ mf, (Sre.forMatch wsCode text 0 pos lim false false).runFor (4 * (0 + 1)) = mf ∧ mf.outcome = some .matched ∧ mf.start = pos ∧ mf.handed = pos + n ∧ mf.lastindex = -1 := by
  refine ⟨_, rfl, ?_⟩
  have h0 : Sre.forMatch wsCode text 0 pos lim false false = { code := wsCode, text, lim, start := pos, pc := 5, pos, handed := pos, marks := #[], seen := ({} : Sre.Seen).add 14 } := by rfl
  rw [h0]
  have hint : ((lim : Int) - pos).toNat = lim - pos := by omega
  have x1 := exec_repOne (m := { code := wsCode, text, lim, start := pos, pc := 5, pos, handed := pos, marks := #[], seen := ({} : Sre.Seen).add 14 }) (n := n) (seen := seen') (by kernel_rfl) (by show ¬ (0 : Int) > (lim : Int) - pos; omega) (by
    show Sre.run wsCode text 9 (min 4294967295 ((lim : Int) - pos).toNat) pos 0 _ = _
    rw [hint]; exact hr) (by show ¬ n < 0; omega)
  have e1 : ∀ m1, Sre.M.exec { code := wsCode, text, lim, start := pos, pc := 5, pos, handed := pos, marks := #[], seen := ({} : Sre.Seen).add 14 } = m1 → Sre.M.runFor (4 * (0 + 1)) { code := wsCode, text, lim, start := pos, pc := 5, pos, handed := pos, marks := #[], seen := ({} : Sre.Seen).add 14 } = Sre.M.runFor 3 m1 := by
    rintro m1 rfl; kernel_rfl
  rw [e1 _ x1]
  have e2 : ∀ m2, Sre.M.exec (Sre.M.afterRun { code := wsCode, text, lim, start := pos, pc := 5, pos := pos + n, handed := pos, marks := #[], seen := seen' } .giveBack n (Sre.M.keep { code := wsCode, text, lim, start := pos, pc := 5, pos := pos + n, handed := pos, marks := #[], seen := seen' } false)) = m2 →
      Sre.M.runFor 3 (Sre.M.afterRun { code := wsCode, text, lim, start := pos, pc := 5, pos := pos + n, handed := pos, marks := #[], seen := seen' } .giveBack n (Sre.M.keep { code := wsCode, text, lim, start := pos, pc := 5, pos := pos + n, handed := pos, marks := #[], seen := seen' } false)) = Sre.M.runFor 2 m2 := by
    rintro m2 rfl; kernel_rfl
  refine (congrArg (fun m : Sre.M => m.outcome = some .matched ∧ m.start = pos ∧ m.handed = pos + n ∧ m.lastindex = -1) (e2 _ (exec_success (by kernel_rfl) (by kernel_rfl) (by kernel_rfl)))).mpr ?_
  exact ⟨by kernel_rfl, by kernel_rfl, by kernel_rfl, by kernel_rfl⟩
/-- no blank: nothing is taken -/
theorem run_none {text : Array Nat} {pos m : Nat} {seen : Sre.Seen} (h : m = 0 ∨ isWs (text.getD pos 0) = false) : ∃ seen', Sre.run wsCode text 9 m pos 0 seen = .ok (0, seen') := by
  cases m with
  | zero => exact ⟨_, rfl⟩
  | succ m =>
    have h' : isWs (text.getD pos 0) = false := by simpa using h
    have key : ∀ c, isWs c = false → ∃ s', Sre.accepts wsCode 9 c seen = .ok (false, s') := by
      intro c h'
      have hb : (decide (c < 256) && (wsCode.getD (12 + c / 32) 0).testBit (c % 32)) = false := by
        by_cases hc : c < 256
        · have : ∀ c < 256, (wsCode.getD (12 + c / 32) 0).testBit (c % 32) = isWs c := by decide +kernel
          rw [this c hc, h', Bool.and_false]
        · rw [decide_eq_false hc, Bool.false_and]
      show ∃ s', Sre.inSet wsCode c 23 11 true seen = .ok (false, s')
      refine ⟨(seen.add 9).add 0, ?_⟩
      show (if (decide (c < 256) && (wsCode.getD (11 + (1 + c / 32)) 0).testBit (c % 32)) = true then _ else Sre.inSet wsCode c 22 20 true (seen.add 9)) = _
      rw [if_neg]
      · rfl
      · rw [show 11 + (1 + c / 32) = 12 + c / 32 by omega, hb]; exact Bool.false_ne_true
    obtain ⟨s', ha⟩ := key _ h'
    refine ⟨s', ?_⟩
    unfold Sre.run
    rw [ha]
    rfl

theorem size_cps (x : Str) : x.cps.size = x.length := rfl
section
variable {X : SX} {env : Env} {d : Nat} {st st' st₁ st₂ : St}
/-- «w(s, end).end()» where no blank stands -/
theorem EvE.wsEnd (XO : SXOk X) {wn se en : PySem.Expr} {a1 p1 p2 : Pos} {f : MVal} {p : Addr} {x : Str} {k : Int} (P : PatK X p wsCode 0) (hf : isMatchK X f p) (hkeep : evKeep X f = true) (e1 : EvE X env d wn st f st) (e2 : EvE X env d se st (.str x) st) (e3 : EvE X env d en st (.int k) st)
    (hk : 0 ≤ k) (hk' : k ≤ x.length) (hz : x.length ≤ 10000000) (hw : k = x.length ∨ isWs (x.cps.getD k.toNat 0) = false) (hline : (a1.endLine == p2.line) = true) (hna : isAttr wn = false)
    (hs1 : isStar se = false) (hs2 : isStar en = false) (hb : baseBad (.Call wn [se, en] [] p1) = false) :
    EvE X env d (.Call (.Attribute (.Call wn [se, en] [] p1) "end" a1) [] [] p2) st (.int k) st := by
  have hsz : x.cps.size = x.length := rfl
  have hc : clipN k x.cps.size = k.toNat := by unfold clipN; rw [hsz]; omega
  have hr : ∃ seen', Sre.run wsCode x.cps 9 (min 4294967295 (x.cps.size - clipN k x.cps.size)) (clipN k x.cps.size) 0 (((({} : Sre.Seen).add 14).add 24).add 13) = .ok (0, seen') := by
    rw [hc, hsz]
    rcases hw with h | h
    · exact run_none (.inl (by subst h; simp))
    · exact run_none (.inr h)
  obtain ⟨seen', hr⟩ := hr
  obtain ⟨mf, m1, m2, m3, m4, m5⟩ := wsRun (by unfold clipN; omega) hr
  have hm := AppE.match_ (env := env) (d := d) (st := st) XO (k := k) (n := 0) (yes := true) P hf (by omega) (by omega) (by rw [hsz]; omega) (by decide) m1 m2 (by rfl) (by decide)
  rw [if_pos rfl] at hm
  have hE : matM x p k 0 mf = .fo "re.Match" [.str x, .obj (.ref p), .int (clipN k x.cps.size), .int x.cps.size, .int mf.lastindex, .tup (.int mf.start :: .int k :: [])] := by
    unfold matM spanM
    rw [m4, hc]
    have : ((k.toNat + 0 : Nat) : Int) = k := by omega
    rw [this]; rfl
  rw [hE] at hm
  have st2 : ∀ pos, (backTo pos (starEach [se, en] env)).any (·.1) = false := fun pos => by
    rw [starEach_no hs1, starEach_no hs2]; rfl
  have c1 : EvE X env d (.Call wn [se, en] [] p1) st _ st := EvE.call e1 (evKeep_ok XO hkeep) (.cons e2 (.cons e3 .nil (starEach_no hs2)) (starEach_no hs1)) .nil hm (call_ok hna) (st2 p1)
  exact EvE.meth c1 .matEnd .blt .nil .nil .matEnd (base_ok hb) rfl hline

end
end Mine
end
section
open PySem PySem.W PyProof.Rows
set_option maxHeartbeats 8000000
open_top hd for PySem.Challenge.rw_bc5025_01
end
section
open PySem PySem.W PySem.Calls PyProof.Rows
set_option linter.all false
set_option maxRecDepth 100000
namespace Mine
abbrev pw : Program := PySem.Challenge.pw_bc5025_01
def fdef (k : Nat) : Stmt := (pw.main.body[k]?).getD default
def fbody : Stmt → List Stmt
  | .FunctionDef _ _ b _ _ _ _ _ _ _ => b
  | .ClassDef _ _ _ b _ _ _ _ _ _ _ => b
  | .For _ _ b _ _ => b
  | .While _ b _ _ => b
  | .If _ b _ _ => b
  | .Try b _ _ _ _ => b
  | _ => []
def felse : Stmt → List Stmt
  | .If _ _ b _ => b
  | _ => []
def fname : Stmt → Str
  | .FunctionDef n _ _ _ _ _ _ _ _ _ => n
  | _ => Str.empty
def fpos : Stmt → Pos
  | .FunctionDef _ _ _ _ _ _ _ _ _ p => p
  | _ => default
def fscope : Stmt → Scope
  | .FunctionDef _ _ _ _ _ _ s _ _ _ => s
  | _ => default
def fargs : Stmt → Arguments
  | .FunctionDef _ a _ _ _ _ _ _ _ _ => a
  | _ => ⟨[], [], none, [], [], none, []⟩
def isDef : Stmt → Bool
  | .FunctionDef .. => true
  | _ => false
def ftarg : Stmt → PySem.Expr
  | .For t _ _ _ _ => t
  | .Assign (t :: _) _ _ => t
  | _ => default
def ftest : Stmt → PySem.Expr
  | .While t _ _ _ => t
  | .If t _ _ _ => t
  | .Assign _ t _ => t
  | .Return (some t) _ => t
  | .For _ t _ _ _ => t
  | .Expr t _ => t
  | _ => default
def sub (t : Stmt) (j : Nat) : Stmt := ((fbody t)[j]?).getD default
def meth (k j : Nat) : Stmt := sub (fdef k) j
noncomputable abbrev fdT (n q : Str) (t : Stmt) (dV : Value) (pm : Value) (c : Addr) : FuncData :=
  { name := n, qualname := q, params := fargs t, body := .stmts (fbody t), scope := fscope t, globals := mainGlobals, closure := [], defaults := dV, kwdefaults := .none, doc := .none, pyModule := pm, annotations := none, code := .ref c, closureTuple := .none, builtins := builtinsNs }
/-- the defs within a def -/
def inner (P : Addr) (q : Str) (t : Stmt) : List (Addr × Nat × Nat × Str) := ((fbody t).filter isDef).map fun u => (P, (fpos u).line, (fpos u).col, q ++ ".<locals>." ++ fname u)
def qtab : List (Addr × Nat × Nat × Str) := inner 229 "py_make_scanner" (fdef 23) ++ inner 181 "_make_iterencode" (fdef 16) ++ inner 66 "py_encode_basestring" (fdef 7) ++ inner 73 "py_encode_basestring_ascii" (fdef 8)
def qnT (P : Addr) (line col : Nat) : Str := ((qtab.find? fun q => q.1 == P && q.2.1 == line && q.2.2.1 == col).map fun q => q.2.2.2).getD Str.empty
abbrev globs : List (Str × Value) := [(Str.ofString "_sre", Value.ref 12), (Str.ofString "RawJSON", Value.ref 48), (Str.ofString "ESCAPE", Value.ref 57), (Str.ofString "ESCAPE_ASCII", Value.ref 62), (Str.ofString "ESCAPE_DCT", Value.ref 63), (Str.ofString "py_encode_basestring", Value.ref 71), (Str.ofString "py_encode_basestring_ascii", Value.ref 78), (Str.ofString "encode_basestring_ascii", Value.ref 78), (Str.ofString "encode_basestring", Value.ref 71), (Str.ofString "string_types", Value.type "str"), (Str.ofString "integer_types", Value.type "int"), (Str.ofString "_dict_types", Value.type "dict"), (Str.ofString "JSONEncoder", Value.ref 125), (Str.ofString "is_open", Value.ref 136), (Str.ofString "itemgetter", Value.ref 176), (Str.ofString "_make_iterencode", Value.ref 186), (Str.ofString "linecol", Value.ref 193), (Str.ofString "errmsg", Value.ref 201), (Str.ofString "JSONDecodeError", Value.ref 219), (Str.ofString "NUMBER_RE", Value.ref 227), (Str.ofString "py_make_scanner", Value.ref 234), (Str.ofString "make_scanner", Value.ref 234), (Str.ofString "STRINGCHUNK", Value.ref 239), (Str.ofString "BACKSLASH", Value.ref 240), (Str.ofString "DEFAULT_ENCODING", Value.str (Str.ofString "utf-8") 892), (Str.ofString "FOUR_DIGIT_HEX", Value.ref 245), (Str.ofString "scan_four_digit_hex", Value.ref 254), (Str.ofString "py_scanstring", Value.ref 264), (Str.ofString "scanstring", Value.ref 271), (Str.ofString "unichr", Value.builtin "chr"), (Str.ofString "bounded_int", Value.type "int"), (Str.ofString "WHITESPACE", Value.ref 276), (Str.ofString "WHITESPACE_STR", Value.str (Str.ofString " \t\n\x0d") 1011), (Str.ofString "JSONObject", Value.ref 285), (Str.ofString "JSONArray", Value.ref 294), (Str.ofString "JSONDecoder", Value.ref 330), (Str.ofString "_law_rest", Value.ref 335), (Str.ofString "_law_unfolded", Value.ref 342), (Str.ofString "_law_folded", Value.ref 349), (Str.ofString "_law_passed", Value.ref 356), (Str.ofString "law", Value.ref 361)]
abbrev blts : List (Str × Value) := [("len", .builtin "len"), ("range", .type "range"), ("isinstance", .builtin "isinstance"), ("str", .type "str"), ("list", .type "list"), ("tuple", .type "tuple"), ("dict", .type "dict"), ("int", .type "int"), ("bool", .type "bool"), ("float", .type "float"), ("ord", .builtin "ord"), ("chr", .builtin "chr"), ("sorted", .builtin "sorted"), ("set", .type "set"), ("zip", .type "zip"), ("min", .builtin "min"), ("max", .builtin "max"), ("IndexError", .type "IndexError"), ("KeyError", .type "KeyError"), ("ValueError", .type "ValueError"), ("TypeError", .type "TypeError")]
abbrev a_sre : Addr := 12
abbrev a_RawJSON : Addr := 48
abbrev a_ESCAPE : Addr := 57
abbrev a_ESCAPE_ASCII : Addr := 62
abbrev a_ESCAPE_DCT : Addr := 63
abbrev a_encode_basestring_ascii : Addr := 78
abbrev a_encode_basestring : Addr := 71
abbrev a_JSONEncoder : Addr := 125
abbrev a_itemgetter : Addr := 176
abbrev a_JSONDecodeError : Addr := 219
abbrev a_NUMBER_RE : Addr := 227
abbrev a_make_scanner : Addr := 234
abbrev a_STRINGCHUNK : Addr := 239
abbrev a_BACKSLASH : Addr := 240
abbrev a_FOUR_DIGIT_HEX : Addr := 245
abbrev a_WHITESPACE : Addr := 276
abbrev a_JSONDecoder : Addr := 330
abbrev a_law_rest : Addr := 335
def G0 : Gt := ⟨globs, blts⟩
abbrev t_RawJSON__init_ : Stmt := meth 2 0
abbrev a_RawJSON__init_ : Addr := 45
noncomputable abbrev fd_RawJSON__init_ : FuncData := fdT "__init__" "RawJSON.__init__" (meth 2 0) (Value.none) (Value.str (Str.ofString "simplejson.raw_json") 282) 44
abbrev t_py_encode_basestring : Stmt := fdef 7
abbrev a_py_encode_basestring : Addr := 71
noncomputable abbrev fd_py_encode_basestring : FuncData := fdT "py_encode_basestring" "py_encode_basestring" (fdef 7) ((Value.ref 64)) (Value.str (Str.ofString "simplejson.encoder") 313) 70
abbrev t_py_encode_basestring_ascii : Stmt := fdef 8
abbrev a_py_encode_basestring_ascii : Addr := 78
noncomputable abbrev fd_py_encode_basestring_ascii : FuncData := fdT "py_encode_basestring_ascii" "py_encode_basestring_ascii" (fdef 8) (Value.none) (Value.str (Str.ofString "simplejson.encoder") 313) 77
abbrev t_JSONEncoder__init_ : Stmt := meth 11 2
abbrev a_JSONEncoder__init_ : Addr := 101
noncomputable abbrev fd_JSONEncoder__init_ : FuncData := fdT "__init__" "JSONEncoder.__init__" (meth 11 2) ((Value.ref 94)) (Value.str (Str.ofString "simplejson.encoder") 313) 100
abbrev t_JSONEncoder_default : Stmt := meth 11 3
abbrev a_JSONEncoder_default : Addr := 108
noncomputable abbrev fd_JSONEncoder_default : FuncData := fdT "default" "JSONEncoder.default" (meth 11 3) (Value.none) (Value.str (Str.ofString "simplejson.encoder") 313) 107
abbrev t_JSONEncoder_to_text : Stmt := meth 11 4
abbrev a_JSONEncoder_to_text : Addr := 115
noncomputable abbrev fd_JSONEncoder_to_text : FuncData := fdT "to_text" "JSONEncoder.to_text" (meth 11 4) (Value.none) (Value.str (Str.ofString "simplejson.encoder") 313) 114
abbrev t_JSONEncoder_iterencode : Stmt := meth 11 5
abbrev a_JSONEncoder_iterencode : Addr := 122
noncomputable abbrev fd_JSONEncoder_iterencode : FuncData := fdT "iterencode" "JSONEncoder.iterencode" (meth 11 5) (Value.none) (Value.str (Str.ofString "simplejson.encoder") 313) 121
abbrev t_is_open : Stmt := fdef 12
abbrev a_is_open : Addr := 136
noncomputable abbrev fd_is_open : FuncData := fdT "is_open" "is_open" (fdef 12) (Value.none) (Value.str (Str.ofString "simplejson.encoder") 313) 135
abbrev t_itemgetter__init_ : Stmt := meth 14 1
abbrev a_itemgetter__init_ : Addr := 151
noncomputable abbrev fd_itemgetter__init_ : FuncData := fdT "__init__" "itemgetter.__init__" (meth 14 1) (Value.none) (Value.str (Str.ofString "operator") 524) 150
abbrev t_itemgetter__call_ : Stmt := meth 14 2
abbrev a_itemgetter__call_ : Addr := 158
noncomputable abbrev fd_itemgetter__call_ : FuncData := fdT "__call__" "itemgetter.__call__" (meth 14 2) (Value.none) (Value.str (Str.ofString "operator") 524) 157
abbrev t_itemgetter__repr_ : Stmt := meth 14 3
abbrev a_itemgetter__repr_ : Addr := 165
noncomputable abbrev fd_itemgetter__repr_ : FuncData := fdT "__repr__" "itemgetter.__repr__" (meth 14 3) (Value.none) (Value.str (Str.ofString "operator") 524) 164
abbrev t_itemgetter__reduce_ : Stmt := meth 14 4
abbrev a_itemgetter__reduce_ : Addr := 172
noncomputable abbrev fd_itemgetter__reduce_ : FuncData := fdT "__reduce__" "itemgetter.__reduce__" (meth 14 4) (Value.none) (Value.str (Str.ofString "operator") 524) 171
abbrev t_make_iterencode : Stmt := fdef 16
abbrev a_make_iterencode : Addr := 186
noncomputable abbrev fd_make_iterencode : FuncData := fdT "_make_iterencode" "_make_iterencode" (fdef 16) (Value.none) (Value.str (Str.ofString "simplejson.encoder") 582) 185
abbrev t_linecol : Stmt := fdef 18
abbrev a_linecol : Addr := 193
noncomputable abbrev fd_linecol : FuncData := fdT "linecol" "linecol" (fdef 18) (Value.none) (Value.str (Str.ofString "simplejson.errors") 616) 192
abbrev t_errmsg : Stmt := fdef 19
abbrev a_errmsg : Addr := 201
noncomputable abbrev fd_errmsg : FuncData := fdT "errmsg" "errmsg" (fdef 19) ((Value.ref 194)) (Value.str (Str.ofString "simplejson.errors") 616) 200
abbrev t_JSONDecodeError__init_ : Stmt := meth 20 0
abbrev a_JSONDecodeError__init_ : Addr := 216
noncomputable abbrev fd_JSONDecodeError__init_ : FuncData := fdT "__init__" "JSONDecodeError.__init__" (meth 20 0) ((Value.ref 209)) (Value.str (Str.ofString "simplejson.errors") 616) 215
abbrev t_py_make_scanner : Stmt := fdef 23
abbrev a_py_make_scanner : Addr := 234
noncomputable abbrev fd_py_make_scanner : FuncData := fdT "py_make_scanner" "py_make_scanner" (fdef 23) (Value.none) (Value.str (Str.ofString "simplejson.scanner") 680) 233
abbrev t_scan_four_digit_hex : Stmt := fdef 30
abbrev a_scan_four_digit_hex : Addr := 254
noncomputable abbrev fd_scan_four_digit_hex : FuncData := fdT "scan_four_digit_hex" "scan_four_digit_hex" (fdef 30) ((Value.ref 247)) (Value.str (Str.ofString "simplejson.decoder") 815) 253
abbrev t_py_scanstring : Stmt := fdef 31
abbrev a_py_scanstring : Addr := 264
noncomputable abbrev fd_py_scanstring : FuncData := fdT "py_scanstring" "py_scanstring" (fdef 31) ((Value.ref 257)) (Value.str (Str.ofString "simplejson.decoder") 815) 263
abbrev t_scanstring : Stmt := fdef 32
abbrev a_scanstring : Addr := 271
noncomputable abbrev fd_scanstring : FuncData := fdT "scanstring" "scanstring" (fdef 32) (Value.none) (Value.str (Str.ofString "simplejson.decoder") 815) 270
abbrev t_JSONObject : Stmt := fdef 37
abbrev a_JSONObject : Addr := 285
noncomputable abbrev fd_JSONObject : FuncData := fdT "JSONObject" "JSONObject" (fdef 37) ((Value.ref 278)) (Value.str (Str.ofString "simplejson.decoder") 815) 284
abbrev t_JSONArray : Stmt := fdef 38
abbrev a_JSONArray : Addr := 294
noncomputable abbrev fd_JSONArray : FuncData := fdT "JSONArray" "JSONArray" (fdef 38) ((Value.ref 287)) (Value.str (Str.ofString "simplejson.decoder") 815) 293
abbrev t_JSONDecoder__init_ : Stmt := meth 39 0
abbrev a_JSONDecoder__init_ : Addr := 309
noncomputable abbrev fd_JSONDecoder__init_ : FuncData := fdT "__init__" "JSONDecoder.__init__" (meth 39 0) ((Value.ref 302)) (Value.str (Str.ofString "simplejson.decoder") 815) 308
abbrev t_JSONDecoder_from_text : Stmt := meth 39 1
abbrev a_JSONDecoder_from_text : Addr := 318
noncomputable abbrev fd_JSONDecoder_from_text : FuncData := fdT "from_text" "JSONDecoder.from_text" (meth 39 1) ((Value.ref 311)) (Value.str (Str.ofString "simplejson.decoder") 815) 317
abbrev t_JSONDecoder_raw_from_text : Stmt := meth 39 2
abbrev a_JSONDecoder_raw_from_text : Addr := 327
noncomputable abbrev fd_JSONDecoder_raw_from_text : FuncData := fdT "raw_from_text" "JSONDecoder.raw_from_text" (meth 39 2) ((Value.ref 320)) (Value.str (Str.ofString "simplejson.decoder") 815) 326
abbrev t_law_unfolded : Stmt := fdef 42
abbrev a_law_unfolded : Addr := 342
noncomputable abbrev fd_law_unfolded : FuncData := fdT "_law_unfolded" "_law_unfolded" (fdef 42) (Value.none) (Value.str (Str.ofString "law_bc5025_01") 1128) 341
abbrev t_law_folded : Stmt := fdef 43
abbrev a_law_folded : Addr := 349
noncomputable abbrev fd_law_folded : FuncData := fdT "_law_folded" "_law_folded" (fdef 43) (Value.none) (Value.str (Str.ofString "law_bc5025_01") 1128) 348
abbrev t_law_passed : Stmt := fdef 44
abbrev a_law_passed : Addr := 356
noncomputable abbrev fd_law_passed : FuncData := fdT "_law_passed" "_law_passed" (fdef 44) (Value.none) (Value.str (Str.ofString "law_bc5025_01") 1128) 355
abbrev t_law : Stmt := fdef 45
abbrev a_law : Addr := 361
noncomputable abbrev fd_law : FuncData := fdT "law" "law" (fdef 45) (Value.none) (Value.str (Str.ofString "law_bc5025_01") 1128) 360
abbrev df_py_encode_basestring_0 : Value := Value.str (Str.ofString "\"") 409
abbrev df_JSONEncoder__init__0 : Value := Value.bool false
abbrev df_JSONEncoder__init__1 : Value := Value.bool true
abbrev df_JSONEncoder__init__2 : Value := Value.bool true
abbrev df_JSONEncoder__init__3 : Value := Value.bool false
abbrev df_JSONEncoder__init__4 : Value := Value.none
abbrev df_JSONEncoder__init__5 : Value := Value.none
abbrev df_JSONEncoder__init__6 : Value := Value.none
abbrev df_JSONEncoder__init__7 : Value := Value.bool true
abbrev df_JSONEncoder__init__8 : Value := Value.bool false
abbrev df_JSONEncoder__init__9 : Value := Value.none
abbrev df_JSONEncoder__init__10 : Value := Value.none
abbrev df_errmsg_0 : Value := Value.none
abbrev df_JSONDecodeError__init__0 : Value := Value.none
abbrev df_scan_four_digit_hex_0 : Value := Value.ref 246
abbrev dfa_scan_four_digit_hex_0 : Addr := 246
abbrev df_py_scanstring_0 : Value := Value.bool true
abbrev df_py_scanstring_1 : Value := Value.int 1114111 939
abbrev df_py_scanstring_2 : Value := Value.ref 240
abbrev dfa_py_scanstring_2 : Addr := 240
abbrev df_py_scanstring_3 : Value := Value.ref 255
abbrev dfa_py_scanstring_3 : Addr := 255
abbrev df_py_scanstring_4 : Value := Value.ref 256
abbrev dfa_py_scanstring_4 : Addr := 256
abbrev df_py_scanstring_5 : Value := Value.ref 254
abbrev dfa_py_scanstring_5 : Addr := 254
abbrev df_JSONObject_0 : Value := Value.none
abbrev df_JSONObject_1 : Value := Value.ref 277
abbrev dfa_JSONObject_1 : Addr := 277
abbrev df_JSONObject_2 : Value := Value.str (Str.ofString " \t\n\x0d") 1011
abbrev df_JSONArray_0 : Value := Value.none
abbrev df_JSONArray_1 : Value := Value.ref 286
abbrev dfa_JSONArray_1 : Addr := 286
abbrev df_JSONArray_2 : Value := Value.str (Str.ofString " \t\n\x0d") 1011
abbrev df_JSONDecoder__init__0 : Value := Value.none
abbrev df_JSONDecoder__init__1 : Value := Value.none
abbrev df_JSONDecoder__init__2 : Value := Value.none
abbrev df_JSONDecoder__init__3 : Value := Value.bool true
abbrev df_JSONDecoder__init__4 : Value := Value.none
abbrev df_JSONDecoder__init__5 : Value := Value.none
abbrev df_JSONDecoder__init__6 : Value := Value.none
abbrev df_JSONDecoder_from_text_0 : Value := Value.ref 310
abbrev dfa_JSONDecoder_from_text_0 : Addr := 310
abbrev df_JSONDecoder_raw_from_text_0 : Value := Value.int 0 1095
abbrev df_JSONDecoder_raw_from_text_1 : Value := Value.ref 319
abbrev dfa_JSONDecoder_raw_from_text_1 : Addr := 319
abbrev rest_arr : Array Value := #[Value.int 5 1130, Value.int 2 1131, Value.int 4 1132, Value.int 1 1133, Value.int 3 1134, Value.int 2 1135]
section
variable {prog : Program} {w : World} {hb : Heap} {mg mb : Str → Option Value} {os : OsState}
noncomputable abbrev X0 (prog : Program) (w : World) (hb : Heap) (mg mb : Str → Option Value) (os : OsState) : SX :=
  { prog, w, hb, mg, mb, K := hd.heap_39 w.params, tabs := [(233, 229), (185, 181), (70, 66), (77, 73)], qn := qnT, os }
theorem ok_RawJSON__init_ : FnOk (X0 prog w hb mg mb os) 45 fd_RawJSON__init_ (fbody t_RawJSON__init_) where
  look := ⟨.type "function", none, #[], by kernel_rfl⟩
  body := rfl
  glob := rfl
  blt := rfl
  kind := by kernel_rfl
  co := by kernel_rfl
  clos := rfl
  code := by kernel_rfl
theorem ok_py_encode_basestring : FnOk (X0 prog w hb mg mb os) 71 fd_py_encode_basestring (fbody t_py_encode_basestring) where
  look := ⟨.type "function", none, #[], by kernel_rfl⟩
  body := rfl
  glob := rfl
  blt := rfl
  kind := by kernel_rfl
  co := by kernel_rfl
  clos := rfl
  code := by kernel_rfl
theorem ok_py_encode_basestring_ascii : FnOk (X0 prog w hb mg mb os) 78 fd_py_encode_basestring_ascii (fbody t_py_encode_basestring_ascii) where
  look := ⟨.type "function", none, #[], by kernel_rfl⟩
  body := rfl
  glob := rfl
  blt := rfl
  kind := by kernel_rfl
  co := by kernel_rfl
  clos := rfl
  code := by kernel_rfl
theorem ok_JSONEncoder__init_ : FnOk (X0 prog w hb mg mb os) 101 fd_JSONEncoder__init_ (fbody t_JSONEncoder__init_) where
  look := ⟨.type "function", none, #[], by kernel_rfl⟩
  body := rfl
  glob := rfl
  blt := rfl
  kind := by kernel_rfl
  co := by kernel_rfl
  clos := rfl
  code := by kernel_rfl
theorem ok_JSONEncoder_default : FnOk (X0 prog w hb mg mb os) 108 fd_JSONEncoder_default (fbody t_JSONEncoder_default) where
  look := ⟨.type "function", none, #[], by kernel_rfl⟩
  body := rfl
  glob := rfl
  blt := rfl
  kind := by kernel_rfl
  co := by kernel_rfl
  clos := rfl
  code := by kernel_rfl
theorem ok_JSONEncoder_to_text : FnOk (X0 prog w hb mg mb os) 115 fd_JSONEncoder_to_text (fbody t_JSONEncoder_to_text) where
  look := ⟨.type "function", none, #[], by kernel_rfl⟩
  body := rfl
  glob := rfl
  blt := rfl
  kind := by kernel_rfl
  co := by kernel_rfl
  clos := rfl
  code := by kernel_rfl
theorem ok_JSONEncoder_iterencode : FnOk (X0 prog w hb mg mb os) 122 fd_JSONEncoder_iterencode (fbody t_JSONEncoder_iterencode) where
  look := ⟨.type "function", none, #[], by kernel_rfl⟩
  body := rfl
  glob := rfl
  blt := rfl
  kind := by kernel_rfl
  co := by kernel_rfl
  clos := rfl
  code := by kernel_rfl
theorem ok_is_open : FnOk (X0 prog w hb mg mb os) 136 fd_is_open (fbody t_is_open) where
  look := ⟨.type "function", none, #[], by kernel_rfl⟩
  body := rfl
  glob := rfl
  blt := rfl
  kind := by kernel_rfl
  co := by kernel_rfl
  clos := rfl
  code := by kernel_rfl
theorem ok_itemgetter__init_ : FnOk (X0 prog w hb mg mb os) 151 fd_itemgetter__init_ (fbody t_itemgetter__init_) where
  look := ⟨.type "function", none, #[], by kernel_rfl⟩
  body := rfl
  glob := rfl
  blt := rfl
  kind := by kernel_rfl
  co := by kernel_rfl
  clos := rfl
  code := by kernel_rfl
theorem ok_itemgetter__call_ : FnOk (X0 prog w hb mg mb os) 158 fd_itemgetter__call_ (fbody t_itemgetter__call_) where
  look := ⟨.type "function", none, #[], by kernel_rfl⟩
  body := rfl
  glob := rfl
  blt := rfl
  kind := by kernel_rfl
  co := by kernel_rfl
  clos := rfl
  code := by kernel_rfl
theorem ok_itemgetter__repr_ : FnOk (X0 prog w hb mg mb os) 165 fd_itemgetter__repr_ (fbody t_itemgetter__repr_) where
  look := ⟨.type "function", none, #[], by kernel_rfl⟩
  body := rfl
  glob := rfl
  blt := rfl
  kind := by kernel_rfl
  co := by kernel_rfl
  clos := rfl
  code := by kernel_rfl
theorem ok_itemgetter__reduce_ : FnOk (X0 prog w hb mg mb os) 172 fd_itemgetter__reduce_ (fbody t_itemgetter__reduce_) where
  look := ⟨.type "function", none, #[], by kernel_rfl⟩
  body := rfl
  glob := rfl
  blt := rfl
  kind := by kernel_rfl
  co := by kernel_rfl
  clos := rfl
  code := by kernel_rfl
theorem ok_make_iterencode : FnOk (X0 prog w hb mg mb os) 186 fd_make_iterencode (fbody t_make_iterencode) where
  look := ⟨.type "function", none, #[], by kernel_rfl⟩
  body := rfl
  glob := rfl
  blt := rfl
  kind := by kernel_rfl
  co := by kernel_rfl
  clos := rfl
  code := by kernel_rfl
theorem ok_linecol : FnOk (X0 prog w hb mg mb os) 193 fd_linecol (fbody t_linecol) where
  look := ⟨.type "function", none, #[], by kernel_rfl⟩
  body := rfl
  glob := rfl
  blt := rfl
  kind := by kernel_rfl
  co := by kernel_rfl
  clos := rfl
  code := by kernel_rfl
theorem ok_errmsg : FnOk (X0 prog w hb mg mb os) 201 fd_errmsg (fbody t_errmsg) where
  look := ⟨.type "function", none, #[], by kernel_rfl⟩
  body := rfl
  glob := rfl
  blt := rfl
  kind := by kernel_rfl
  co := by kernel_rfl
  clos := rfl
  code := by kernel_rfl
theorem ok_JSONDecodeError__init_ : FnOk (X0 prog w hb mg mb os) 216 fd_JSONDecodeError__init_ (fbody t_JSONDecodeError__init_) where
  look := ⟨.type "function", none, #[], by kernel_rfl⟩
  body := rfl
  glob := rfl
  blt := rfl
  kind := by kernel_rfl
  co := by kernel_rfl
  clos := rfl
  code := by kernel_rfl
theorem ok_py_make_scanner : FnOk (X0 prog w hb mg mb os) 234 fd_py_make_scanner (fbody t_py_make_scanner) where
  look := ⟨.type "function", none, #[], by kernel_rfl⟩
  body := rfl
  glob := rfl
  blt := rfl
  kind := by kernel_rfl
  co := by kernel_rfl
  clos := rfl
  code := by kernel_rfl
theorem ok_scan_four_digit_hex : FnOk (X0 prog w hb mg mb os) 254 fd_scan_four_digit_hex (fbody t_scan_four_digit_hex) where
  look := ⟨.type "function", none, #[], by kernel_rfl⟩
  body := rfl
  glob := rfl
  blt := rfl
  kind := by kernel_rfl
  co := by kernel_rfl
  clos := rfl
  code := by kernel_rfl
theorem ok_py_scanstring : FnOk (X0 prog w hb mg mb os) 264 fd_py_scanstring (fbody t_py_scanstring) where
  look := ⟨.type "function", none, #[], by kernel_rfl⟩
  body := rfl
  glob := rfl
  blt := rfl
  kind := by kernel_rfl
  co := by kernel_rfl
  clos := rfl
  code := by kernel_rfl
theorem ok_scanstring : FnOk (X0 prog w hb mg mb os) 271 fd_scanstring (fbody t_scanstring) where
  look := ⟨.type "function", none, #[], by kernel_rfl⟩
  body := rfl
  glob := rfl
  blt := rfl
  kind := by kernel_rfl
  co := by kernel_rfl
  clos := rfl
  code := by kernel_rfl
theorem ok_JSONObject : FnOk (X0 prog w hb mg mb os) 285 fd_JSONObject (fbody t_JSONObject) where
  look := ⟨.type "function", none, #[], by kernel_rfl⟩
  body := rfl
  glob := rfl
  blt := rfl
  kind := by kernel_rfl
  co := by kernel_rfl
  clos := rfl
  code := by kernel_rfl
theorem ok_JSONArray : FnOk (X0 prog w hb mg mb os) 294 fd_JSONArray (fbody t_JSONArray) where
  look := ⟨.type "function", none, #[], by kernel_rfl⟩
  body := rfl
  glob := rfl
  blt := rfl
  kind := by kernel_rfl
  co := by kernel_rfl
  clos := rfl
  code := by kernel_rfl
theorem ok_JSONDecoder__init_ : FnOk (X0 prog w hb mg mb os) 309 fd_JSONDecoder__init_ (fbody t_JSONDecoder__init_) where
  look := ⟨.type "function", none, #[], by kernel_rfl⟩
  body := rfl
  glob := rfl
  blt := rfl
  kind := by kernel_rfl
  co := by kernel_rfl
  clos := rfl
  code := by kernel_rfl
theorem ok_JSONDecoder_from_text : FnOk (X0 prog w hb mg mb os) 318 fd_JSONDecoder_from_text (fbody t_JSONDecoder_from_text) where
  look := ⟨.type "function", none, #[], by kernel_rfl⟩
  body := rfl
  glob := rfl
  blt := rfl
  kind := by kernel_rfl
  co := by kernel_rfl
  clos := rfl
  code := by kernel_rfl
theorem ok_JSONDecoder_raw_from_text : FnOk (X0 prog w hb mg mb os) 327 fd_JSONDecoder_raw_from_text (fbody t_JSONDecoder_raw_from_text) where
  look := ⟨.type "function", none, #[], by kernel_rfl⟩
  body := rfl
  glob := rfl
  blt := rfl
  kind := by kernel_rfl
  co := by kernel_rfl
  clos := rfl
  code := by kernel_rfl
theorem ok_law_unfolded : FnOk (X0 prog w hb mg mb os) 342 fd_law_unfolded (fbody t_law_unfolded) where
  look := ⟨.type "function", none, #[], by kernel_rfl⟩
  body := rfl
  glob := rfl
  blt := rfl
  kind := by kernel_rfl
  co := by kernel_rfl
  clos := rfl
  code := by kernel_rfl
theorem ok_law_folded : FnOk (X0 prog w hb mg mb os) 349 fd_law_folded (fbody t_law_folded) where
  look := ⟨.type "function", none, #[], by kernel_rfl⟩
  body := rfl
  glob := rfl
  blt := rfl
  kind := by kernel_rfl
  co := by kernel_rfl
  clos := rfl
  code := by kernel_rfl
theorem ok_law_passed : FnOk (X0 prog w hb mg mb os) 356 fd_law_passed (fbody t_law_passed) where
  look := ⟨.type "function", none, #[], by kernel_rfl⟩
  body := rfl
  glob := rfl
  blt := rfl
  kind := by kernel_rfl
  co := by kernel_rfl
  clos := rfl
  code := by kernel_rfl
theorem ok_law : FnOk (X0 prog w hb mg mb os) 361 fd_law (fbody t_law) where
  look := ⟨.type "function", none, #[], by kernel_rfl⟩
  body := rfl
  glob := rfl
  blt := rfl
  kind := by kernel_rfl
  co := by kernel_rfl
  clos := rfl
  code := by kernel_rfl
theorem look_mem {α : Type} {P : Str → α → Prop} : ∀ {l : List (Str × α)}, (∀ q ∈ l, P q.1 q.2) → ∀ x v, l.lookup x = some v → P x v
  | (y, u) :: r, h, x, v, e => by
    rw [List.lookup_cons] at e
    cases hxy : (x == y) with
    | true => rw [hxy] at e; cases e; have : x = y := by simpa using hxy
              subst this; exact h _ List.mem_cons_self
    | false => rw [hxy] at e; exact look_mem (fun q hq => h q (List.mem_cons_of_mem _ hq)) x v e
def isG (K : Frag) (q : Str × Value) : Prop := nsIn K mainGlobals q.1 = some (some q.2)
theorem globs_ok : ∀ q ∈ globs, isG (hd.heap_39 w.params) q := by
  unfold globs
  simp only [List.forall_mem_cons, List.not_mem_nil, false_imp_iff, implies_true, and_true]
  repeat' apply And.intro
  all_goals exact (by unfold isG; kernel_rfl)
structure IsB (K : Frag) (q : Str × Value) : Prop where
  a : nsIn K mainGlobals q.1 = some none
  b : bootBuiltins q.1 = some q.2
  c : (q.1 == ("__name__" : Str)) = false
theorem blts_ok : ∀ q ∈ blts, IsB (hd.heap_39 w.params) q := by
  unfold blts
  simp only [List.forall_mem_cons, List.not_mem_nil, false_imp_iff, implies_true, and_true]
  repeat' apply And.intro
  all_goals exact ⟨by kernel_rfl, by decide +kernel, by kernel_rfl⟩
theorem gtok (XO : SXOk (X0 prog w hb mg mb os)) : GtOk (X0 prog w hb mg mb os) G0 where
  g := look_mem fun q hq => mg_is XO (globs_ok q hq)
  b := look_mem fun q hq => ⟨mg_no XO (blts_ok q hq).a, (blts_ok (w := w) q hq).b, by have := (blts_ok (w := w) q hq).c; simpa using this⟩
end
end Mine
end
section
open PySem PySem.W PySem.Calls PyProof.Rows
set_option linter.all false
set_option maxRecDepth 100000
namespace Mine
-- the decoder's objects: 0 its fields, 1 its memo, 2 .. 14 the scanner's cells
abbrev t_so : Stmt := sub t_py_make_scanner 12
abbrev t_sn : Stmt := sub t_py_make_scanner 13
abbrev FSO : CloF := ⟨"_scan_once", "py_make_scanner.<locals>._scan_once", fargs t_so, fbody t_so, fscope t_so⟩
abbrev FSN : CloF := ⟨"scan_once", "py_make_scanner.<locals>.scan_once", fargs t_sn, fbody t_sn, fscope t_sn⟩
abbrev csSO : List (Str × Nat) := (csOf [("_scan_once", 2), ("array_hook", 3), ("encoding", 4), ("match_number", 5), ("memo", 6), ("object_hook", 7), ("object_pairs_hook", 8), ("parse_array", 9), ("parse_float", 10), ("parse_int", 11), ("parse_object", 12), ("parse_string", 13), ("strict", 14)] FSO.scope.names []).getD []
abbrev csSN : List (Str × Nat) := (csOf [("_scan_once", 2), ("array_hook", 3), ("encoding", 4), ("match_number", 5), ("memo", 6), ("object_hook", 7), ("object_pairs_hook", 8), ("parse_array", 9), ("parse_float", 10), ("parse_int", 11), ("parse_object", 12), ("parse_string", 13), ("strict", 14)] FSN.scope.names []).getD []
/-- what a decoder is made with -/
structure DecP where
  oh : MVal
  pf : MVal
  pi : MVal
  st : MVal
  oph : MVal
  ah : MVal
abbrev decF (D : DecP) : List (Str × MVal) := [("encoding", .str "utf-8"), ("object_hook", D.oh), ("object_pairs_hook", D.oph), ("parse_float", D.pf), ("parse_int", D.pi), ("strict", D.st), ("array_hook", D.ah), ("parse_object", .obj (.ref a_JSONObject)), ("parse_array", .obj (.ref a_JSONArray)), ("parse_string", .obj (.ref a_scanstring)), ("memo", .ref 1)]
abbrev decC (D : DecP) : List MObj := [.cell (some (.clo FSO csSO)), .cell (some D.ah), .cell (some (.str "utf-8")), .cell (some (.bm "re.Pattern.match" (.obj (.ref a_NUMBER_RE)))), .cell (some (.ref 1)), .cell (some D.oh), .cell (some D.oph), .cell (some (.obj (.ref a_JSONArray))), .cell (some D.pf), .cell (some D.pi), .cell (some (.obj (.ref a_JSONObject))), .cell (some (.obj (.ref a_scanstring))), .cell (some D.st)]
abbrev LD0 (D : DecP) : List MObj := .dct (decF D) :: .dct [] :: decC D
abbrev LD (D : DecP) : List MObj := .dct (decF D ++ [(("scan_once" : Str), MVal.clo FSN csSN)]) :: .dct [] :: decC D
abbrev numCode : Array Nat := #[14, 4, 0, 1, 4294967295, 17, 0, 24, 6, 0, 1, 16, 45, 1, 7, 5, 16, 48, 15, 22, 20, 13, 5, 22, 49, 57, 0, 24, 10, 0, 4294967295, 13, 5, 22, 48, 57, 0, 1, 15, 2, 0, 17, 1, 23, 20, 0, 1, 17, 2, 16, 46, 24, 10, 1, 4294967295, 13, 5, 22, 48, 57, 0, 1, 17, 3, 18, 23, 37, 0, 1, 17, 4, 13, 6, 16, 101, 16, 69, 0, 24, 11, 0, 1, 13, 6, 16, 45, 16, 43, 0, 1, 24, 10, 1, 4294967295, 13, 5, 22, 48, 57, 0, 1, 17, 5, 18, 1]
section
variable {prog : Program} {w : World} {hb : Heap} {mg mb : Str → Option Value} {os : OsState} {d : Nat} {led : List MObj}
theorem patNum : PatK (X0 prog w hb mg mb os) a_NUMBER_RE numCode 3 :=
  .of (by kernel_rfl)
abbrev hdd (v : MVal) : Prop := v.handed = true
structure DecOk (D : DecP) : Prop where
  oh : hdd D.oh
  pf : hdd D.pf
  pi : hdd D.pi
  st : hdd D.st
  oph : hdd D.oph
  ah : hdd D.ah
theorem mkScanner (XO : SXOk (X0 prog w hb mg mb os)) (D : DecP) (h : DecOk D) :
    CallsTo (X0 prog w hb mg mb os) (d + 1) (.obj (.ref a_py_make_scanner)) [.insr a_JSONDecoder 0] [] [.dct (decF D), .dct []] (.clo FSN csSN) (LD0 D) :=
  CallsTo.run XO (gtok XO) 300 [.r (.bm "re.Pattern.match" (.obj (.ref a_NUMBER_RE)))] [("context", .arg 0)] (fl := .ret (.clo FSN csSN)) (st' := ⟨[("context", .insr a_JSONDecoder 0), ("scan_once", .clo FSN csSN)], cellsAt 2 (cellNames fd_py_make_scanner.scope.names), LD0 D⟩)
    (ps := [hdd (.ref 1), hdd D.ah, hdd D.oph, hdd D.oh, hdd D.pi, hdd D.pf, hdd D.st, hdd (.str "utf-8"), ∀ env st, EnvOk env → GtE (X0 prog w hb mg mb os) env d (.obj (.ref a_NUMBER_RE)) "match" st (.bm "re.Pattern.match" (.obj (.ref a_NUMBER_RE))) st, hdd (.obj (.ref a_scanstring)), hdd (.obj (.ref a_JSONArray)), hdd (.obj (.ref a_JSONObject))])
    ok_py_make_scanner (by intro v S; kernel_rfl) (by kernel_rfl) (by kernel_rfl) ⟨rfl, h.ah, h.oph, h.oh, h.pi, h.pf, h.st, rfl, fun env st _ => .patMatch XO patNum, rfl, rfl, rfl, trivial⟩ rfl
/-- the decoder's arguments that are left out -/
abbrev tmDec (ah : Tm) : List (Str × Tm) := [("self", .arg 0), ("object_hook", .val .none), ("parse_float", .val .none), ("parse_int", .val .none), ("strict", .val (.bool true)), ("object_pairs_hook", .val .none), ("array_hook", ah), ("encoding", .val .none)]
abbrev DA (hook : MVal) : DecP := ⟨.none, .obj (.type "float"), .obj (.type "int"), .bool true, .none, hook⟩
theorem decInitA (XO : SXOk (X0 prog w hb mg mb os)) (hook : MVal) (h : hdd hook) :
    CallsTo (X0 prog w hb mg mb os) (d + 2) (.obj (.ref a_JSONDecoder__init_)) [.insr a_JSONDecoder 0] [("array_hook", hook)] [.dct []] .none (LD (DA hook)) :=
  CallsTo.run XO (gtok XO) 300 [.v (.clo FSN csSN) (LD0 (DA hook))] (tmDec (.kw 0)) (fl := .next) (st' := ⟨[("self", .insr a_JSONDecoder 0), ("object_hook", .none), ("parse_float", .none), ("parse_int", .none), ("strict", .bool true), ("object_pairs_hook", .none), ("array_hook", hook), ("encoding", .str "utf-8")], [], LD (DA hook)⟩)
    (ps := [CallsTo (X0 prog w hb mg mb os) (d + 1) (.obj (.ref a_py_make_scanner)) [.insr a_JSONDecoder 0] [] [.dct (decF (DA hook)), .dct []] (.clo FSN csSN) (LD0 (DA hook))])
    ok_JSONDecoder__init_ (by intro v v2 S; kernel_rfl) (by kernel_rfl) (by kernel_rfl) ⟨mkScanner XO (DA hook) ⟨rfl, rfl, rfl, rfl, rfl, h⟩, trivial⟩ rfl
theorem decMakeA (XO : SXOk (X0 prog w hb mg mb os)) (hook : MVal) (h : hdd hook) (hs : ∀ n, hook.sh n = hook) :
    CallsTo (X0 prog w hb mg mb os) (d + 3) (.obj (.ref a_JSONDecoder)) [] [("array_hook", hook)] led (.insr a_JSONDecoder led.length) (led ++ (LD (DA hook)).map (MObj.sh led.length)) := by
  refine CallsTo.make XO (fI := a_JSONDecoder__init_) (by kernel_rfl) (by kernel_rfl) (by kernel_rfl) ?_
  have := (decInitA (d := d) XO hook h).shift led
  simpa only [List.map_cons, List.map_nil, shs, MVal.sh, hs, MObj.sh, Nat.add_zero] using this
end
end Mine
end
section
open PySem PySem.W PySem.Calls PyProof.Rows
set_option linter.all false
set_option maxRecDepth 100000
namespace Mine
-- what this law's decoder is made with
abbrev hookL : MVal := .obj (.ref a_law_folded)
abbrev piL : MVal := .obj (.type "int")
abbrev DL : DecP := ⟨.none, .obj (.type "float"), piL, .bool true, .none, hookL⟩
-- what it draws
abbrev drestL : List Int := [5, 2, 4, 1, 3, 2]
abbrev nD : Nat := 6
abbrev mD : Int := 10007
abbrev CL0 (scr : List MVal) : List MObj := [.cell (some (.lst scr)), .cell none]
end Mine
end
section
open PySem PySem.W PySem.Calls PyProof.Rows
set_option linter.all false
set_option maxRecDepth 100000
namespace Mine
/-- how an encoder is made -/
structure EncP where
  skip : MVal
  asc : Bool
  sk : MVal
  tup : MVal
  isk : MVal
  ind : MVal
  dflt : MVal
  isep : Str
  ksep : Str
abbrev encF (E : EncP) : List (Str × MVal) := [("skipkeys", E.skip), ("ensure_ascii", .bool E.asc), ("check_circular", .bool true), ("sort_keys", E.sk), ("tuple_as_array", E.tup), ("bigint_as_string", .bool false), ("item_sort_key", E.isk), ("int_as_string_bitcount", .none), ("indent", E.ind), ("own_default", E.dflt)]
-- the encoder's objects: 0 its fields, 1 the open values, 2 .. 16 the cells
abbrev cellE : List (Str × Nat) := [("markers", 2), ("_default", 3), ("_encoder", 4), ("_indent", 5), ("_key_separator", 6), ("_item_separator", 7), ("_skipkeys", 8), ("_tuple_as_array", 9), ("_int_as_string_bitcount", 10), ("_item_sort_key", 11), ("_encode_int", 12), ("_iterencode", 13), ("_iterencode_dict", 14), ("_iterencode_list", 15), ("_stringify_key", 16)]
abbrev t_ei : Stmt := sub t_make_iterencode 2
abbrev t_il : Stmt := sub t_make_iterencode 3
abbrev t_sk : Stmt := sub t_make_iterencode 4
abbrev t_id : Stmt := sub t_make_iterencode 5
abbrev t_it : Stmt := sub t_make_iterencode 6
abbrev mkF (n : Str) (t : Stmt) : CloF := ⟨n, "_make_iterencode.<locals>." ++ n, fargs t, fbody t, fscope t⟩
abbrev FEI : CloF := mkF "_encode_int" t_ei
abbrev FIL : CloF := mkF "_iterencode_list" t_il
abbrev FSK : CloF := mkF "_stringify_key" t_sk
abbrev FID : CloF := mkF "_iterencode_dict" t_id
abbrev FIT : CloF := mkF "_iterencode" t_it
abbrev csOfE (F : CloF) : List (Str × Nat) := (csOf cellE F.scope.names []).getD []
abbrev bdef : MVal := .fo "method" [.obj (.ref a_JSONEncoder_default), .insr a_JSONEncoder 0]
abbrev encd (asc : Bool) : MVal := if asc then .obj (.ref a_py_encode_basestring_ascii) else .obj (.ref a_py_encode_basestring)
abbrev cellsE (E : EncP) : List MObj := [.cell (some (.ref 1)), .cell (some bdef), .cell (some (encd E.asc)), .cell (some E.ind), .cell (some (.str E.ksep)), .cell (some (.str E.isep)), .cell (some E.skip), .cell (some E.tup), .cell (some .none), .cell (some E.isk), .cell (some (.clo FEI (csOfE FEI))), .cell (some (.clo FIT (csOfE FIT))), .cell (some (.clo FID (csOfE FID))), .cell (some (.clo FIL (csOfE FIL))), .cell (some (.clo FSK (csOfE FSK)))]
abbrev LE (E : EncP) (anc : List MVal) : List MObj := .dct (encF E) :: .lst anc :: cellsE E
/-- the plain encoder -/
abbrev E0 : EncP := ⟨.bool false, true, .bool false, .bool true, .none, .none, .none, ", ", ": "⟩

def GenC (X : SX) (d : Nat) (led : List MObj) (F : CloF) (cs : List (Str × Nat)) (args : List MVal) (ys : List (MVal × List MObj)) : Prop :=
  ∀ A fz kp kg ρ s fv us (Rz : Result → Shared → Prop), AOk A d → LRel X fz kp kg ρ led s → VRel fz ρ (.clo F cs) fv → VRels fz ρ args us →
    (∀ fz' g gs a prI s', Grow fz ρ fz' ρ → GenIs X d led ρ ys led fz' prI nil_ gs → VRel fz' ρ (.gen g) (.ref a) → Disj prI kp → kg g = none → LRel X fz' (orF prI kp) (orF (one_ g gs) kg) ρ led s' → Rz (.ok (.ret (.ref a))) s') → codeAny (mdl X) A (.call fv ⟨us, []⟩) Rz s
section
variable {prog : Program} {w : World} {hb : Heap} {mg mb : Str → Option Value} {os : OsState} {d : Nat} {led : List MObj}
abbrev tmMk : List (Str × Tm) := [("markers", .arg 0), ("_default", .arg 1), ("_encoder", .arg 2), ("_indent", .arg 3), ("_key_separator", .arg 4), ("_item_separator", .arg 5), ("_sort_keys", .arg 6), ("_skipkeys", .arg 7), ("_tuple_as_array", .arg 8), ("_int_as_string_bitcount", .arg 9), ("_item_sort_key", .arg 10)]
theorem mkIt0 (XO : SXOk (X0 prog w hb mg mb os)) : CallsTo (X0 prog w hb mg mb os) (d + 1) (.obj (.ref a_make_iterencode)) [.ref 1, bdef, encd true, .none, .str ": ", .str ", ", .bool false, .bool false, .bool true, .none, .none] [] [.dct (encF E0), .lst []] (.clo FIT (csOfE FIT)) (LE E0 []) :=
  CallsTo.run2 XO (gtok XO) 300 [] tmMk (.ret (.clo FIT (csOfE FIT))) [] ok_make_iterencode (by intro a b c d e f g h i j k S; kernel_rfl) (by kernel_rfl) (by kernel_rfl) trivial rfl

-- is_open
/-- no ancestor is this list -/
def NotOpen (anc : List MVal) (vs : List MVal) : Prop := ∀ x ∈ anc, ∃ ws, x = .lst ws ∧ allData ws = true ∧ ws ≠ vs
abbrev stO (anc vs : List MVal) : St := ⟨[("markers", .ref 1), ("obj", .lst vs)], [], LE E0 anc⟩
theorem forOpen (XO : SXOk (X0 prog w hb mg mb os)) {env : Env} (I : Is env (cxF fd_is_open)) {anc vs : List MVal} (hv : allData vs = true) : ∀ (xs : List MVal), (∀ x ∈ xs, ∃ ws, x = MVal.lst ws ∧ allData ws = true ∧ ws ≠ vs) →
    ForR (X0 prog w hb mg mb os) env d (ftarg (sub t_is_open 0)) (fbody (sub t_is_open 0)) 1 anc xs (stO anc vs) .next (stO anc vs)
  | [], _ => .nil rfl
  | x :: xs, hx => by
    obtain ⟨ws, rfl, h1, h2⟩ := hx x List.mem_cons_self
    refine .next (b := (stO anc vs).put "one" (.lst ws)) (c := (stO anc vs).put "one" (.lst ws)) (f := .next) rfl (StoreE.run XO (gtok XO) 5 [] [] (by kernel_rfl) trivial I) ?_ (.inl rfl) (.weak (a' := stO anc vs) (.of rfl rfl ⟨by kernel_rfl, by kernel_rfl, trivial⟩) (forOpen XO I hv xs fun y hy => hx y (List.mem_cons_of_mem _ hy)))
    exact ExL.run XO (gtok XO) 20 [.m false] [∀ env st, EnvOk env → CmpE (X0 prog w hb mg mb os) env d .Is (.lst ws) (.lst vs) st false st] (by kernel_rfl) ⟨fun env st _ => .isDiff h1 hv h2, trivial⟩ I
theorem isopen (XO : SXOk (X0 prog w hb mg mb os)) {anc vs : List MVal} (hv : allData vs = true) (hn : NotOpen anc vs) :
    CallsTo (X0 prog w hb mg mb os) (d + 1) (.obj (.ref a_is_open)) [.ref 1, .lst vs] [] (LE E0 anc) (.bool false) (LE E0 anc) :=
  CallsTo.run2 XO (gtok XO) 300 [.f .next (stO anc vs)] [("markers", .arg 0), ("obj", .arg 1)] (.ret (.bool false))
    [∀ env, Is env (cxF fd_is_open) → ∃ st2, ForR (X0 prog w hb mg mb os) env d (ftarg (sub t_is_open 0)) (fbody (sub t_is_open 0)) 1 anc anc (stO anc vs) .next st2 ∧ Sub (stO anc vs) st2]
    ok_is_open (by intro a b S; kernel_rfl) (by kernel_rfl) (by kernel_rfl) ⟨fun env I => ⟨_, forOpen XO I hv anc hn, .of rfl rfl ⟨by kernel_rfl, by kernel_rfl, trivial⟩⟩, trivial⟩ rfl
end
end Mine
end
section
open PySem PySem.W PySem.Calls PyProof.Rows
set_option linter.all false
set_option maxRecDepth 100000
namespace Mine
local macro_rules | `(tactic| walk_at "sub") => `(tactic| repeat' (first | exact trivial | refine And.intro (by kernel_rfl) ?_))
section
variable {prog : Program} {w : World} {hb : Heap} {mg mb : Str → Option Value} {os : OsState} {d : Nat} {led : List MObj}
theorem GsT.stepR {X : SX} {G : Gt} {env : Env} {c : Cx} {st st₁ st' : St} (XO : SXOk X) (GO : GtOk X G) (I : Is env c) {t : Stmt} {r : List Stmt} {zs : List (MVal × List MObj)} {f : MFlow} (n : Nat) (o : List Ans) (ps : List Prop) (h : (evN (pr X d) X d G n).S c t st ⟨o, []⟩ = some (.next, st₁, ⟨[], ps⟩)) (hp : AllP ps) (hl : st₁.led.length = st.led.length) (h2 : GsT X d env (execs r env) st₁ zs f st') :
    GsT X d env (execs (t :: r) env) st zs f st' := GsT.step (ExS.run XO GO n o ps h hp I) hl h2
theorem GsT.yieldI {X : SX} {env : Env} {c : Cx} {st st' : St} {e : PySem.Expr} {ypos pos : Pos} {v : MVal} (I : Is env c) (hc : c.sc.isCoroutine = false) (h : EvE X env d e st v st') (hl : st'.led.length = st.led.length) :
    GsT X d env (exec (.Expr (.Yield (some e) ypos) pos) env) st [(v, st'.led)] .next st' := GsT.yieldS h hl (by rw [I.sc]; exact hc) (inter_no I.ok)
theorem bindIL {a b : MVal} : BindsC FIL [a, b] [] [("lst", a), ("_current_indent_level", b)] :=
  BindsC.tm (args := [a, b]) (kw := []) [("lst", .arg 0), ("_current_indent_level", .arg 1)] (by intro _ _ _ _ _ v1 v2; show bindArgs _ _ = _; kernel_rfl)
abbrev csIL : List (Str × Nat) := csOfE FIL
abbrev stI (anc vs : List MVal) : St := ⟨[("lst", .lst vs), ("_current_indent_level", .int 0)], csIL, LE E0 anc⟩
theorem iterL0 (XO : SXOk (X0 prog w hb mg mb os)) {anc : List MVal} : GenC (X0 prog w hb mg mb os) (d + 1) (LE E0 anc) FIL csIL [.lst [], .int 0] [(.str "[]", LE E0 anc)] := by
  intro A fz kp kg ρ s fv us Rz ok R hf hv q
  refine callG XO (kw := []) (ledf := LE E0 anc) (by kernel_rfl) (by kernel_rfl) rfl (by kernel_rfl) bindIL (by kernel_rfl) (by show List.Nodup [Str.ofString "lst", Str.ofString "_current_indent_level"]; decide +kernel) (fun L a c' clos => ?_) (fl := .ret .none) (.inr rfl) A fz kp kg ρ s fv us [] Rz ok R hf hv (by simp [KRels, VRels]) q
  have I : Is (envX FIL.qual FIL.scope L a (.ref c') clos) (cxC FIL) := cxC_is (by kernel_rfl) L a c' clos
  refine ⟨stI anc [], GsT.stop (GsT.ifT (c := true) (TsE.run XO (gtok XO) 20 [] [([] : List MVal).length ≤ 10000000] (by kernel_rfl) ⟨by simp, trivial⟩ I) rfl rfl ?_) nofun, rfl⟩
  exact GsT.castY (GsT.cons (GsT.yieldS EvE.cstr rfl) (GsT.stop (GsT.plain ExS.ret_none rfl) nofun)) rfl
/-- what a list gives, its parts' gifts among it -/
def itemsL (f : MVal → List (MVal × List MObj)) (led : List MObj) : Bool → List MVal → List (MVal × List MObj)
  | _, [] => []
  | b, x :: xs => (.str (if b then Str.ofString "[" else Str.ofString ", "), led) :: (f x ++ itemsL f led false xs)
abbrev locL (vs : List MVal) : Bool → List (Str × MVal)
  | true => [("lst", .lst vs), ("_current_indent_level", .int 0), ("buf", .str "["), ("newline_indent", .none), ("separator", .str ", "), ("first", .bool true)]
  | false => [("lst", .lst vs), ("_current_indent_level", .int 0), ("newline_indent", .none), ("separator", .str ", "), ("first", .bool false)]
abbrev stL (anc vs : List MVal) (b : Bool) : St := ⟨locL vs b, csIL, LE E0 anc⟩
abbrev stV (anc vs : List MVal) (bf : Str) (v : MVal) : St := ⟨[("lst", .lst vs), ("_current_indent_level", .int 0), ("buf", .str bf), ("newline_indent", .none), ("separator", .str ", "), ("first", .bool false), ("value", v)], csIL, LE E0 anc⟩
theorem GsT.sub {X : SX} {env : Env} {st st₁ st' : St} {m : Sem Flow} {ys : List (MVal × List MObj)} {f : MFlow} (h : GsT X d env m st₁ ys f st') (s : Sub st₁ st) : GsT X d env m st ys f st' := by
  intro A c fs K H gd lv outs ledf fz pr pg kp kg ρ s' ok F hgd d1 d2 R q
  exact h A c fs K H gd lv outs ledf fz pr pg kp kg ρ s' ok F hgd d1 d2 (R.sub s) q
abbrev forL : Stmt := sub t_il 5
abbrev bodyL : List Stmt := fbody forL
/-- the rest of a turn, where the part is a list -/
theorem restL (XO : SXOk (X0 prog w hb mg mb os)) {env : Env} (I : Is env (cxC FIL)) {anc vs ws : List MVal} {bf : Str} {ys : List (MVal × List MObj)}
    (hg : GenC (X0 prog w hb mg mb os) d (LE E0 anc) FIL csIL [.lst ws, .int 0] ys) :
    GsT (X0 prog w hb mg mb os) (d + 1) env (execs bodyL.tail env) (stV anc vs bf (.lst ws)) ((.str bf, LE E0 anc) :: ys) .next (stV anc vs bf (.lst ws)) := by
  refine GsT.last (GsT.ifF (c := false) (TsE.run XO (gtok XO) 20 [] [] (by kernel_rfl) trivial I) rfl rfl (GsT.last ?_))
  refine GsT.ifF (c := false) (TsE.run XO (gtok XO) 20 [] [] (by kernel_rfl) trivial I) rfl rfl (GsT.last ?_)
  refine GsT.ifF (c := false) (TsE.run XO (gtok XO) 20 [] [] (by kernel_rfl) trivial I) rfl rfl (GsT.last ?_)
  refine GsT.ifF (c := false) (TsE.run XO (gtok XO) 20 [] [] (by kernel_rfl) trivial I) rfl rfl (GsT.last ?_)
  refine GsT.ifF (c := false) (TsE.run XO (gtok XO) 20 [] [] (by kernel_rfl) trivial I) rfl rfl ?_
  refine GsT.castY (GsT.cons (ys := [(.str bf, LE E0 anc)]) (GsT.yieldI I (by kernel_rfl) (EvE.run XO (gtok XO) 20 [] [] (by kernel_rfl) trivial I) rfl)
    (GsT.genFor (p := ⟨0, 0, 0, 0⟩) (ys := ys) (ledf := LE E0 anc) XO I.ok (x := "chunk") (y := "chunks") ?m0 (by kernel_rfl) ?t1 ?t2 ?t3 (by kernel_rfl) (by kernel_rfl) (by decide) rfl GsT.nil)) (by simp)
  case m0 =>
    refine MkS.ifT (c := true) (TsE.run XO (gtok XO) 20 [] [] (by kernel_rfl) trivial I) rfl (MkS.one (MkS.assign I.ok ?_ (by rw [I.kind]; kernel_rfl)))
    refine MkG.call (f := .clo FIL csIL) (vs := [.lst ws, .int 0]) (EvE.run XO (gtok XO) 20 [] [] (by kernel_rfl) trivial I) KpE.clo (.cons (st₁ := stV anc vs bf (.lst ws)) (EvE.run XO (gtok XO) 20 [] [] (by kernel_rfl) trivial I) (.cons (st₁ := stV anc vs bf (.lst ws)) (EvE.run XO (gtok XO) 20 [] [] (by kernel_rfl) trivial I) .nil)) ?_
    exact fun A fz kp kg ρ s fv us Rz ok R hf hv q => hg A fz kp kg ρ s fv us Rz (ok.mono (Nat.le_succ _)) R hf hv q
  case t1 => intro st v; exact StoreE.run XO (gtok XO) 5 [] [] (by kernel_rfl) trivial I
  case t2 => intro st v; exact GsT.last (GsT.yieldI I (by kernel_rfl) (EvE.name (LdE.locF I.ok .set (by rw [I.kind]; kernel_rfl)) (by decide)) rfl)
  case t3 => intro st v; exact EvE.name (LdE.locF I.ok .set (by rw [I.kind]; kernel_rfl)) (by decide)

theorem loopL (XO : SXOk (X0 prog w hb mg mb os)) {env : Env} (I : Is env (cxC FIL)) {anc vs : List MVal} {fo : MVal → List (MVal × List MObj)} : ∀ (xs : List MVal) (b : Bool),
    (∀ x ∈ xs, ∃ ws, x = .lst ws ∧ GenC (X0 prog w hb mg mb os) d (LE E0 anc) FIL csIL [.lst ws, .int 0] (fo x)) →
    ∃ b', GsF (X0 prog w hb mg mb os) (d + 1) env (ftarg forL) bodyL xs (stL anc vs b) (itemsL fo (LE E0 anc) b xs) (stL anc vs b')
  | [], b, _ => ⟨b, .nil⟩
  | x :: xs, b, hx => by
    obtain ⟨ws, rfl, hg⟩ := hx x List.mem_cons_self
    obtain ⟨b', h1⟩ := loopL XO I (vs := vs) (fo := fo) xs false (fun y hy => hx y (List.mem_cons_of_mem _ hy))
    refine ⟨b', ?_⟩
    cases b with
    | true =>
      refine GsF.next (b := (stL anc vs true).put "value" (.lst ws)) (c := stV anc vs "[" (.lst ws)) (ys := (.str (Str.ofString "["), LE E0 anc) :: fo (.lst ws)) (f := .next) (StoreE.run XO (gtok XO) 5 [] [] (by kernel_rfl) trivial I) rfl ?_ (.inl rfl) (.weak (a' := stL anc vs false) (.of rfl rfl (by walk_at "sub")) h1)
      exact GsT.stepR XO (gtok XO) I 20 [] [] (st₁ := stV anc vs "[" (.lst ws)) (by kernel_rfl) trivial rfl (restL XO I hg)
    | false =>
      refine GsF.next (b := (stL anc vs false).put "value" (.lst ws)) (c := stV anc vs ", " (.lst ws)) (ys := (.str (Str.ofString ", "), LE E0 anc) :: fo (.lst ws)) (f := .next) (StoreE.run XO (gtok XO) 5 [] [] (by kernel_rfl) trivial I) rfl ?_ (.inl rfl) (.weak (a' := stL anc vs false) (.of rfl rfl (by walk_at "sub")) h1)
      exact GsT.stepR XO (gtok XO) I 20 [] [] (st₁ := ⟨locL vs false ++ [(("value" : Str), MVal.lst ws), (("buf" : Str), MVal.str ", ")], csIL, LE E0 anc⟩) (by kernel_rfl) trivial rfl ((restL XO I hg).sub (.of rfl rfl (by walk_at "sub")))

theorem iterS (XO : SXOk (X0 prog w hb mg mb os)) {anc xs : List MVal} {x : MVal} {fo : MVal → List (MVal × List MObj)}
    (hd : allData (x :: xs) = true) (hn : NotOpen anc (x :: xs)) (hl : anc.length ≤ 1000) (hz : (x :: xs).length ≤ 1000)
    (hg : ∀ y ∈ x :: xs, ∃ ws, y = .lst ws ∧ GenC (X0 prog w hb mg mb os) d (LE E0 (anc ++ [.lst (x :: xs)])) FIL csIL [.lst ws, .int 0] (fo y)) :
    GenC (X0 prog w hb mg mb os) (d + 2) (LE E0 anc) FIL csIL [.lst (x :: xs), .int 0]
      (itemsL fo (LE E0 (anc ++ [.lst (x :: xs)])) true (x :: xs) ++ [(.str "]", LE E0 (anc ++ [.lst (x :: xs)]))]) := by
  intro A fz kp kg ρ s fv us Rz ok R hf hv q
  refine callG (d := d + 1) XO (kw := []) (ledf := LE E0 anc) (by kernel_rfl) (by kernel_rfl) rfl (by kernel_rfl) bindIL (by kernel_rfl) (by show List.Nodup [Str.ofString "lst", Str.ofString "_current_indent_level"]; decide +kernel) (fun L a c' clos => ?_) (fl := .next) (.inl rfl) A fz kp kg ρ s fv us [] Rz ok R hf hv (by simp [KRels, VRels]) q
  have I : Is (envX FIL.qual FIL.scope L a (.ref c') clos) (cxC FIL) := cxC_is (by kernel_rfl) L a c' clos
  generalize hvs : x :: xs = vs at hd hn hz hg ⊢
  have hne : vs.isEmpty = false := by rw [← hvs]; rfl
  obtain ⟨b', hF⟩ := loopL XO I (vs := vs) (fo := fo) vs true hg
  refine ⟨⟨locL vs b', csIL, LE E0 anc⟩, ?_, rfl⟩
  refine GsT.stepR XO (gtok XO) I 20 [.b true] [(!vs.isEmpty) = true, vs.length ≤ 10000000] (st₁ := stI anc vs) (by kernel_rfl) ⟨by rw [hne]; rfl, by omega, trivial⟩ rfl ?_
  refine GsT.stepR XO (gtok XO) I 30 [.v (.bool false) (LE E0 anc)] [anc.length ≤ 10000000, CallsTo (X0 prog w hb mg mb os) (d + 1) (.obj (.ref a_is_open)) [.ref 1, .lst vs] [] (LE E0 anc) (.bool false) (LE E0 anc)] (st₁ := stI (anc ++ [.lst vs]) vs) (by kernel_rfl) ⟨by omega, isopen XO hd hn, trivial⟩ rfl ?_
  refine GsT.stepR XO (gtok XO) I 20 [] [] (st₁ := (stI (anc ++ [.lst vs]) vs).put "buf" (.str "[")) (by kernel_rfl) trivial rfl ?_
  refine GsT.stepR XO (gtok XO) I 20 [] [] (st₁ := ⟨(locL vs true).take 5, csIL, LE E0 (anc ++ [.lst vs])⟩) (by kernel_rfl) trivial rfl ?_
  refine GsT.stepR XO (gtok XO) I 20 [] [] (st₁ := stL (anc ++ [.lst vs]) vs true) (by kernel_rfl) trivial rfl ?_
  refine GsT.cons (GsT.for (v := .lst vs) (EvE.run XO (gtok XO) 10 [] [] (by kernel_rfl) trivial I) rfl IterE.lst hF (fold_ok (by kernel_rfl))) ?_
  have k1 : ∀ b, (evN (pr (X0 prog w hb mg mb os) (d + 1)) (X0 prog w hb mg mb os) (d + 1) G0 20).S (cxC FIL) (sub t_il 6) (stL (anc ++ [.lst vs]) vs b) ⟨[], []⟩ = some (.next, stL (anc ++ [.lst vs]) vs b, ⟨[], []⟩) := by
    intro b; cases b <;> kernel_rfl
  refine GsT.step (ExS.run XO (gtok XO) 20 [] [] (k1 b') trivial I) rfl ?_
  refine GsT.castY (GsT.cons (zs := []) (GsT.yieldI I (by kernel_rfl) EvE.cstr rfl) ?_) (by rfl)
  have k2 : ∀ b, (evN (pr (X0 prog w hb mg mb os) (d + 1)) (X0 prog w hb mg mb os) (d + 1) G0 30).S (cxC FIL) (sub t_il 8) (stL (anc ++ [.lst vs]) vs b) ⟨[.v (.lst vs) (LE E0 anc)], []⟩ = some (.next, ⟨locL vs b, csIL, LE E0 anc⟩, ⟨[], [∀ env, EnvOk env → AppE (X0 prog w hb mg mb os) env (d + 1) (.obj (.builtin "list.pop")) [.ref 1] [] (stL (anc ++ [.lst vs]) vs b) (.lst vs) ((stL (anc ++ [.lst vs]) vs b).wled (LE E0 anc))]⟩) := by
    intro b; cases b <;> kernel_rfl
  refine GsT.step (ExS.run XO (gtok XO) 30 _ _ (k2 b') ⟨fun env _ => ?_, trivial⟩ I) rfl GsT.nil
  exact AppE.pop (i := 1) (vs := anc) rfl (by omega)
end
end Mine
end
section
open PySem PySem.W PySem.Calls PyProof.Rows
set_option linter.all false
set_option maxRecDepth 100000
namespace Mine
abbrev intS (n : Int) : Str := Str.ofString (toString n)
section
variable {prog : Program} {w : World} {hb : Heap} {mg mb : Str → Option Value} {os : OsState} {d : Nat} {led : List MObj}
theorem AppE.strI {X : SX} {env : Env} {st : St} {a : Int} (ha : a.natAbs.log2 < 1920) : AppE X env d (.obj (.type "str")) [.int a] [] st (.str (intS a)) st :=
  fun A fz kp kg ρ s fv us kvs ok R hf hv hk Q E q => by
    have ek := kvs_nil hk; subst ek
    simp only [VRel] at hf; subst hf
    simp only [VRels, VRel] at hv
    obtain ⟨y, r, rfl, ⟨t, rfl⟩, rfl⟩ := hv
    exact PySem.P.str_of_int ha (q _ _ _ _ (R.tk _) (.refl _ _) (by simp only [VRel]; exact ⟨_, rfl⟩))
/-- «a or b», «a and b» as a value, where the first part decides -/
theorem EvE.bopS {X : SX} {env : Env} {st st₁ : St} {op : BoolOp} {e e2 : PySem.Expr} {es : List PySem.Expr} {pos : Pos} {v : MVal} {t : Bool} (h1 : EvE X env d e st v st₁) (h2 : TruE X env d v st₁ t st₁) (ht : (op = .And ∧ t = false) ∨ (op = .Or ∧ t = true)) :
    EvE X env d (.BoolOp op (e :: e2 :: es) pos) st v st₁ := fun A fz kp kg ρ s ok R Q E q => by
  show wpAny _ _ (boolOp pos op (eval e env :: eval e2 env :: evalEach es env)) _ _ _
  unfold boolOp
  refine wpAny_bind (h1 A fz kp kg ρ s ok R _ _ fun fz₁ ρ₁ va s₁ R₁ g₁ r₁ => ?_)
  refine wpAny_bind (wpAny_standAt (wpAny_bind (wpAny_holding (h2 A fz₁ kp kg ρ₁ s₁ va ok R₁ r₁ _ _ fun fz₂ ρ₂ b s₂ R₂ g₂ hb => ?_))))
  have hb' : b = t := hb
  subst hb'
  have r₂ := VRel.grow g₂ _ _ r₁
  rcases ht with ⟨rfl, rfl⟩ | ⟨rfl, rfl⟩ <;> exact wpAny_pure (q _ _ _ _ R₂ (g₁.trans g₂) r₂)
abbrev csEI : List (Str × Nat) := csOfE FEI
abbrev sqE : PySem.Expr := match sub t_ei 0 with
  | .Assign _ e _ => e
  | _ => default
abbrev stEI (E : EncP) (anc : List MVal) (n : Int) : St := ⟨[("value", .int n)], csEI, LE E anc⟩
abbrev bopA : PySem.Expr → PySem.Expr
  | .BoolOp _ (a :: _) _ => a
  | _ => default
theorem sqOk (XO : SXOk (X0 prog w hb mg mb os)) {E : EncP} {anc : List MVal} {n : Int} {env : Env} (I : Is env (cxC FEI)) : EvE (X0 prog w hb mg mb os) env d sqE (stEI E anc n) (.bool true) (stEI E anc n) :=
  .bopS (EvE.run (e := bopA sqE) XO (gtok XO) 20 [] [] (by kernel_rfl) trivial I) .bool (.inr ⟨rfl, rfl⟩)
theorem encInt (XO : SXOk (X0 prog w hb mg mb os)) {E : EncP} {anc : List MVal} {n : Int} (hn : n.natAbs.log2 < 1920) :
    CallsTo (X0 prog w hb mg mb os) (d + 1) (.clo FEI csEI) [.int n] [] (LE E anc) (.str (intS n)) (LE E anc) :=
  CallsTo.runC2 XO (gtok XO) 300 [.e sqE.pos (.bool true) (stEI E anc n), .r (.str (intS n))] [("value", .arg 0)] (.ret (.str (intS n)))
    [∀ (env : Env) (st : St), EnvOk env → AppE (X0 prog w hb mg mb os) env d (.obj (.type "str")) [.int n] [] st (.str (intS n)) st, ∀ (env : Env), Is env (cxC FEI) → EvE (X0 prog w hb mg mb os) env d sqE (stEI E anc n) (.bool true) (stEI E anc n)]
    (by intro _ _ _ _ _ v1; show bindArgs _ _ = _; kernel_rfl) (by kernel_rfl) (by kernel_rfl) ⟨fun env st _ => .strI hn, fun env I => sqOk XO I, trivial⟩ rfl
end
end Mine
end
section
open PySem PySem.W PySem.Calls PyProof.Rows
set_option linter.all false
set_option maxRecDepth 100000
namespace Mine
/-- an encoder without indentation -/
structure EncQ where
  skip : MVal
  asc : Bool
  sk : MVal
  tup : Bool
  isk : MVal
  dflt : MVal
  isep : Str
  ksep : Str
abbrev EncQ.enc (Q : EncQ) : EncP := ⟨Q.skip, Q.asc, Q.sk, .bool Q.tup, Q.isk, .none, Q.dflt, Q.isep, Q.ksep⟩
abbrev Q0 : EncQ := ⟨.bool false, true, .bool false, true, .none, .none, ", ", ": "⟩
section
variable {prog : Program} {w : World} {hb : Heap} {mg mb : Str → Option Value} {os : OsState} {d : Nat} {led : List MObj}
-- is_open
abbrev stOG (E : EncP) (anc vs : List MVal) : St := ⟨[("markers", .ref 1), ("obj", .lst vs)], [], LE E anc⟩
theorem forOpenG {E : EncP} (XO : SXOk (X0 prog w hb mg mb os)) {env : Env} (I : Is env (cxF fd_is_open)) {anc vs : List MVal} (hv : allData vs = true) : ∀ (xs : List MVal), (∀ x ∈ xs, ∃ ws, x = MVal.lst ws ∧ allData ws = true ∧ ws ≠ vs) →
    ForR (X0 prog w hb mg mb os) env d (ftarg (sub t_is_open 0)) (fbody (sub t_is_open 0)) 1 anc xs (stOG E anc vs) .next (stOG E anc vs)
  | [], _ => .nil rfl
  | x :: xs, hx => by
    obtain ⟨ws, rfl, h1, h2⟩ := hx x List.mem_cons_self
    refine .next (b := (stOG E anc vs).put "one" (.lst ws)) (c := (stOG E anc vs).put "one" (.lst ws)) (f := .next) rfl (StoreE.run XO (gtok XO) 5 [] [] (by kernel_rfl) trivial I) ?_ (.inl rfl) (.weak (a' := stOG E anc vs) (.of rfl rfl ⟨by kernel_rfl, by kernel_rfl, trivial⟩) (forOpenG XO I hv xs fun y hy => hx y (List.mem_cons_of_mem _ hy)))
    exact ExL.run XO (gtok XO) 20 [.m false] [∀ env st, EnvOk env → CmpE (X0 prog w hb mg mb os) env d .Is (.lst ws) (.lst vs) st false st] (by kernel_rfl) ⟨fun env st _ => .isDiff h1 hv h2, trivial⟩ I
theorem isopenG {E : EncP} (XO : SXOk (X0 prog w hb mg mb os)) {anc vs : List MVal} (hv : allData vs = true) (hn : NotOpen anc vs) :
    CallsTo (X0 prog w hb mg mb os) (d + 1) (.obj (.ref a_is_open)) [.ref 1, .lst vs] [] (LE E anc) (.bool false) (LE E anc) :=
  CallsTo.run2 XO (gtok XO) 300 [.f .next (stOG E anc vs)] [("markers", .arg 0), ("obj", .arg 1)] (.ret (.bool false))
    [∀ env, Is env (cxF fd_is_open) → ∃ st2, ForR (X0 prog w hb mg mb os) env d (ftarg (sub t_is_open 0)) (fbody (sub t_is_open 0)) 1 anc anc (stOG E anc vs) .next st2 ∧ Sub (stOG E anc vs) st2]
    ok_is_open (by intro a b S; kernel_rfl) (by kernel_rfl) (by kernel_rfl) ⟨fun env I => ⟨_, forOpenG XO I hv anc hn, .of rfl rfl ⟨by kernel_rfl, by kernel_rfl, trivial⟩⟩, trivial⟩ rfl
end
end Mine
end
section
open PySem PySem.W PySem.Calls PyProof.Rows
set_option linter.all false
set_option maxRecDepth 100000
namespace Mine
local macro_rules | `(tactic| walk_at "sub") => `(tactic| repeat' (first | exact trivial | refine And.intro (by kernel_rfl) ?_))
section
variable {prog : Program} {w : World} {hb : Heap} {mg mb : Str → Option Value} {os : OsState} {d : Nat} {led : List MObj} {Q : EncQ}
abbrev stIG (Q : EncQ) (anc vs : List MVal) : St := ⟨[("lst", .lst vs), ("_current_indent_level", .int 0)], csIL, LE Q.enc anc⟩
theorem iterL0G (XO : SXOk (X0 prog w hb mg mb os)) {anc : List MVal} : GenC (X0 prog w hb mg mb os) (d + 1) (LE Q.enc anc) FIL csIL [.lst [], .int 0] [(.str "[]", LE Q.enc anc)] := by
  intro A fz kp kg ρ s fv us Rz ok R hf hv q
  refine callG XO (kw := []) (ledf := LE Q.enc anc) (by kernel_rfl) (by kernel_rfl) rfl (by kernel_rfl) bindIL (by kernel_rfl) (by show List.Nodup [Str.ofString "lst", Str.ofString "_current_indent_level"]; decide +kernel) (fun L a c' clos => ?_) (fl := .ret .none) (.inr rfl) A fz kp kg ρ s fv us [] Rz ok R hf hv (by simp [KRels, VRels]) q
  have I : Is (envX FIL.qual FIL.scope L a (.ref c') clos) (cxC FIL) := cxC_is (by kernel_rfl) L a c' clos
  refine ⟨stIG Q anc [], GsT.stop (GsT.ifT (c := true) (TsE.run XO (gtok XO) 20 [] [([] : List MVal).length ≤ 10000000] (by kernel_rfl) ⟨by simp, trivial⟩ I) rfl rfl ?_) nofun, rfl⟩
  exact GsT.castY (GsT.cons (GsT.yieldS EvE.cstr rfl) (GsT.stop (GsT.plain ExS.ret_none rfl) nofun)) rfl
/-- what a list's parts give -/
def itemsG (gf : MVal → Str → List (MVal × List MObj)) (sep : Str) : Bool → List MVal → List (MVal × List MObj)
  | _, [] => []
  | b, x :: xs => gf x (if b then Str.ofString "[" else sep) ++ itemsG gf sep false xs
abbrev locG (Q : EncQ) (vs : List MVal) : Bool → List (Str × MVal)
  | true => [("lst", .lst vs), ("_current_indent_level", .int 0), ("buf", .str "["), ("newline_indent", .none), ("separator", .str Q.isep), ("first", .bool true)]
  | false => [("lst", .lst vs), ("_current_indent_level", .int 0), ("newline_indent", .none), ("separator", .str Q.isep), ("first", .bool false)]
abbrev stLG (Q : EncQ) (anc vs : List MVal) (b : Bool) : St := ⟨locG Q vs b, csIL, LE Q.enc anc⟩
abbrev stVG (Q : EncQ) (anc vs : List MVal) (bf : Str) (v : MVal) : St := ⟨[("lst", .lst vs), ("_current_indent_level", .int 0), ("newline_indent", .none), ("separator", .str Q.isep), ("first", .bool false), ("value", v), ("buf", .str bf)], csIL, LE Q.enc anc⟩
/-- one part, told: what stands ahead of it is handed in -/
def ItemG (prog : Program) (w : World) (hb : Heap) (mg mb : Str → Option Value) (os : OsState) (d : Nat) (Q : EncQ) (anc vs : List MVal) (x : MVal) (gf : Str → List (MVal × List MObj)) : Prop :=
  ∀ env, Is env (cxC FIL) → ∀ bf : Str, bf.length ≤ 1000 → ∃ st', GsT (X0 prog w hb mg mb os) d env (execs bodyL.tail env) (stVG Q anc vs bf x) (gf bf) .next st' ∧ Sub (stLG Q anc vs false) st'
theorem loopG (XO : SXOk (X0 prog w hb mg mb os)) {env : Env} (I : Is env (cxC FIL)) {anc vs : List MVal} {gf : MVal → Str → List (MVal × List MObj)} (hs : Q.isep.length ≤ 1000) : ∀ (xs : List MVal) (b : Bool),
    (∀ x ∈ xs, ItemG prog w hb mg mb os (d + 1) Q anc vs x (gf x)) →
    ∃ b', GsF (X0 prog w hb mg mb os) (d + 1) env (ftarg forL) bodyL xs (stLG Q anc vs b) (itemsG gf Q.isep b xs) (stLG Q anc vs b')
  | [], b, _ => ⟨b, .nil⟩
  | x :: xs, b, hx => by
    obtain ⟨b', h1⟩ := loopG XO I (vs := vs) (gf := gf) hs xs false (fun y hy => hx y (List.mem_cons_of_mem _ hy))
    refine ⟨b', ?_⟩
    cases b with
    | true =>
      obtain ⟨st', g1, g2⟩ := hx x List.mem_cons_self env I (Str.ofString "[") (by decide +kernel)
      refine GsF.next (b := (stLG Q anc vs true).put "value" x) (c := st') (ys := gf x (Str.ofString "[")) (f := .next) (StoreE.run XO (gtok XO) 5 [] [] (by kernel_rfl) trivial I) rfl ?_ (.inl rfl) (.weak (a' := stLG Q anc vs false) g2 h1)
      exact GsT.stepR XO (gtok XO) I 20 [] [] (st₁ := ⟨[("lst", .lst vs), ("_current_indent_level", .int 0), ("buf", .str "["), ("newline_indent", .none), ("separator", .str Q.isep), ("first", .bool false), ("value", x)], csIL, LE Q.enc anc⟩) (by kernel_rfl) trivial rfl (g1.sub (.of rfl rfl (by walk_at "sub")))
    | false =>
      obtain ⟨st', g1, g2⟩ := hx x List.mem_cons_self env I Q.isep hs
      refine GsF.next (b := (stLG Q anc vs false).put "value" x) (c := st') (ys := gf x Q.isep) (f := .next) (StoreE.run XO (gtok XO) 5 [] [] (by kernel_rfl) trivial I) rfl ?_ (.inl rfl) (.weak (a' := stLG Q anc vs false) g2 h1)
      exact GsT.stepR XO (gtok XO) I 20 [] [] (st₁ := stVG Q anc vs Q.isep x) (by kernel_rfl) trivial rfl g1
theorem iterG (XO : SXOk (X0 prog w hb mg mb os)) {anc xs : List MVal} {x : MVal} {gf : MVal → Str → List (MVal × List MObj)}
    (hd : allData (x :: xs) = true) (hn : CallsTo (X0 prog w hb mg mb os) (d + 1) (.obj (.ref a_is_open)) [.ref 1, .lst (x :: xs)] [] (LE Q.enc anc) (.bool false) (LE Q.enc anc)) (hl : anc.length ≤ 1000) (hz : (x :: xs).length ≤ 1000)
    (hs : Q.isep.length ≤ 1000)
    (hg : ∀ y ∈ x :: xs, ItemG prog w hb mg mb os (d + 1) Q (anc ++ [.lst (x :: xs)]) (x :: xs) y (gf y)) :
    GenC (X0 prog w hb mg mb os) (d + 2) (LE Q.enc anc) FIL csIL [.lst (x :: xs), .int 0]
      (itemsG gf Q.isep true (x :: xs) ++ [(.str "]", LE Q.enc (anc ++ [.lst (x :: xs)]))]) := by
  intro A fz kp kg ρ s fv us Rz ok R hf hv q
  refine callG (d := d + 1) XO (kw := []) (ledf := LE Q.enc anc) (by kernel_rfl) (by kernel_rfl) rfl (by kernel_rfl) bindIL (by kernel_rfl) (by show List.Nodup [Str.ofString "lst", Str.ofString "_current_indent_level"]; decide +kernel) (fun L a c' clos => ?_) (fl := .next) (.inl rfl) A fz kp kg ρ s fv us [] Rz ok R hf hv (by simp [KRels, VRels]) q
  have I : Is (envX FIL.qual FIL.scope L a (.ref c') clos) (cxC FIL) := cxC_is (by kernel_rfl) L a c' clos
  generalize hvs : x :: xs = vs at hd hn hz hg ⊢
  have hne : vs.isEmpty = false := by rw [← hvs]; rfl
  obtain ⟨b', hF⟩ := loopG (Q := Q) XO I (vs := vs) (gf := gf) hs vs true hg
  refine ⟨⟨locG Q vs b', csIL, LE Q.enc anc⟩, ?_, rfl⟩
  refine GsT.stepR XO (gtok XO) I 20 [.b true] [(!vs.isEmpty) = true, vs.length ≤ 10000000] (st₁ := stIG Q anc vs) (by kernel_rfl) ⟨by rw [hne]; rfl, by omega, trivial⟩ rfl ?_
  refine GsT.stepR XO (gtok XO) I 30 [.v (.bool false) (LE Q.enc anc)] [anc.length ≤ 10000000, CallsTo (X0 prog w hb mg mb os) (d + 1) (.obj (.ref a_is_open)) [.ref 1, .lst vs] [] (LE Q.enc anc) (.bool false) (LE Q.enc anc)] (st₁ := stIG Q (anc ++ [.lst vs]) vs) (by kernel_rfl) ⟨by omega, hn, trivial⟩ rfl ?_
  refine GsT.stepR XO (gtok XO) I 20 [] [] (st₁ := (stIG Q (anc ++ [.lst vs]) vs).put "buf" (.str "[")) (by kernel_rfl) trivial rfl ?_
  refine GsT.stepR XO (gtok XO) I 20 [] [] (st₁ := ⟨(locG Q vs true).take 5, csIL, LE Q.enc (anc ++ [.lst vs])⟩) (by kernel_rfl) trivial rfl ?_
  refine GsT.stepR XO (gtok XO) I 20 [] [] (st₁ := stLG Q (anc ++ [.lst vs]) vs true) (by kernel_rfl) trivial rfl ?_
  refine GsT.cons (GsT.for (v := .lst vs) (EvE.run XO (gtok XO) 10 [] [] (by kernel_rfl) trivial I) rfl IterE.lst hF (fold_ok (by kernel_rfl))) ?_
  have k1 : ∀ b, (evN (pr (X0 prog w hb mg mb os) (d + 1)) (X0 prog w hb mg mb os) (d + 1) G0 20).S (cxC FIL) (sub t_il 6) (stLG Q (anc ++ [.lst vs]) vs b) ⟨[], []⟩ = some (.next, stLG Q (anc ++ [.lst vs]) vs b, ⟨[], []⟩) := by
    intro b; cases b <;> kernel_rfl
  refine GsT.step (ExS.run XO (gtok XO) 20 [] [] (k1 b') trivial I) rfl ?_
  refine GsT.castY (GsT.cons (zs := []) (GsT.yieldI I (by kernel_rfl) EvE.cstr rfl) ?_) (by rfl)
  have k2 : ∀ b, (evN (pr (X0 prog w hb mg mb os) (d + 1)) (X0 prog w hb mg mb os) (d + 1) G0 30).S (cxC FIL) (sub t_il 8) (stLG Q (anc ++ [.lst vs]) vs b) ⟨[.v (.lst vs) (LE Q.enc anc)], []⟩ = some (.next, ⟨locG Q vs b, csIL, LE Q.enc anc⟩, ⟨[], [∀ env, EnvOk env → AppE (X0 prog w hb mg mb os) env (d + 1) (.obj (.builtin "list.pop")) [.ref 1] [] (stLG Q (anc ++ [.lst vs]) vs b) (.lst vs) ((stLG Q (anc ++ [.lst vs]) vs b).wled (LE Q.enc anc))]⟩) := by
    intro b; cases b <;> kernel_rfl
  refine GsT.step (ExS.run XO (gtok XO) 30 _ _ (k2 b') ⟨fun env _ => ?_, trivial⟩ I) rfl GsT.nil
  exact AppE.pop (i := 1) (vs := anc) rfl (by omega)
end
end Mine
end
section
open PySem PySem.W PySem.Calls PyProof.Rows
set_option linter.all false
set_option maxRecDepth 100000
namespace Mine
local macro_rules | `(tactic| walk_at "sub") => `(tactic| repeat' (first | exact trivial | refine And.intro (by kernel_rfl) ?_))
section
variable {prog : Program} {w : World} {hb : Heap} {mg mb : Str → Option Value} {os : OsState} {d : Nat} {led : List MObj} {Q : EncQ}
abbrev ifB (k : Nat) (t : Stmt) : Stmt := ((match t with | .If _ b _ _ => b | _ => [])[k]?).getD default
theorem itemInt (XO : SXOk (X0 prog w hb mg mb os)) {anc vs : List MVal} {n : Int} (hn : n.natAbs.log2 < 1920) (hl : (intS n).length ≤ 2000) :
    ItemG prog w hb mg mb os (d + 1) Q anc vs (.int n) (fun bf => [(.str (bf ++ intS n), LE Q.enc anc)]) := by
  intro env I bf hb'
  refine ⟨stVG Q anc vs bf (.int n), ?_, .of rfl rfl (by walk_at "sub")⟩
  refine GsT.last (GsT.ifF (c := false) (TsE.run XO (gtok XO) 20 [] [] (by kernel_rfl) trivial I) rfl rfl (GsT.last ?_))
  refine GsT.ifF (c := false) (TsE.run XO (gtok XO) 20 [] [] (by kernel_rfl) trivial I) rfl rfl (GsT.last ?_)
  refine GsT.ifF (c := false) (TsE.run XO (gtok XO) 20 [] [] (by kernel_rfl) trivial I) rfl rfl (GsT.last ?_)
  refine GsT.ifF (c := false) (TsE.run XO (gtok XO) 20 [] [] (by kernel_rfl) trivial I) rfl rfl (GsT.last ?_)
  refine GsT.ifT (c := true) (TsE.run XO (gtok XO) 20 [] [] (by kernel_rfl) trivial I) rfl rfl (GsT.last ?_)
  exact GsT.yieldI I (by kernel_rfl) (EvE.run XO (gtok XO) 20 [.v (.str (intS n)) (LE Q.enc anc)]
    [bf.length + (intS n).length ≤ 10000000, CallsTo (X0 prog w hb mg mb os) (d + 1) (.clo FEI csEI) [.int n] [] (LE Q.enc anc) (.str (intS n)) (LE Q.enc anc)] (by kernel_rfl) ⟨by omega, encInt XO hn, trivial⟩ I) rfl
theorem itemLst (XO : SXOk (X0 prog w hb mg mb os)) {anc vs ws : List MVal} {ys : List (MVal × List MObj)} (hg : GenC (X0 prog w hb mg mb os) d (LE Q.enc anc) FIL csIL [.lst ws, .int 0] ys) :
    ItemG prog w hb mg mb os (d + 1) Q anc vs (.lst ws) (fun bf => (.str bf, LE Q.enc anc) :: ys) := by
  intro env I bf hb'
  refine ⟨stVG Q anc vs bf (.lst ws), ?_, .of rfl rfl (by walk_at "sub")⟩
  refine GsT.last (GsT.ifF (c := false) (TsE.run XO (gtok XO) 20 [] [] (by kernel_rfl) trivial I) rfl rfl (GsT.last ?_))
  refine GsT.ifF (c := false) (TsE.run XO (gtok XO) 20 [] [] (by kernel_rfl) trivial I) rfl rfl (GsT.last ?_)
  refine GsT.ifF (c := false) (TsE.run XO (gtok XO) 20 [] [] (by kernel_rfl) trivial I) rfl rfl (GsT.last ?_)
  refine GsT.ifF (c := false) (TsE.run XO (gtok XO) 20 [] [] (by kernel_rfl) trivial I) rfl rfl (GsT.last ?_)
  refine GsT.ifF (c := false) (TsE.run XO (gtok XO) 20 [] [] (by kernel_rfl) trivial I) rfl rfl ?_
  refine GsT.castY (GsT.cons (ys := [(.str bf, LE Q.enc anc)]) (GsT.yieldI I (by kernel_rfl) (EvE.run XO (gtok XO) 20 [] [] (by kernel_rfl) trivial I) rfl)
    (GsT.genFor (p := ⟨0, 0, 0, 0⟩) (ys := ys) (ledf := LE Q.enc anc) XO I.ok (x := "chunk") (y := "chunks") ?m0 (by kernel_rfl) ?t1 ?t2 ?t3 (by kernel_rfl) (by kernel_rfl) (by decide) rfl GsT.nil)) (by simp)
  case m0 =>
    refine MkS.ifT (c := true) (TsE.run XO (gtok XO) 20 [] [] (by kernel_rfl) trivial I) rfl (MkS.one (MkS.assign I.ok ?_ (by rw [I.kind]; kernel_rfl)))
    refine MkG.call (f := .clo FIL csIL) (vs := [.lst ws, .int 0]) (EvE.run XO (gtok XO) 20 [] [] (by kernel_rfl) trivial I) KpE.clo (.cons (st₁ := stVG Q anc vs bf (.lst ws)) (EvE.run XO (gtok XO) 20 [] [] (by kernel_rfl) trivial I) (.cons (st₁ := stVG Q anc vs bf (.lst ws)) (EvE.run XO (gtok XO) 20 [] [] (by kernel_rfl) trivial I) .nil)) ?_
    exact fun A fz kp kg ρ s fv us Rz ok R hf hv q => hg A fz kp kg ρ s fv us Rz (ok.mono (Nat.le_succ _)) R hf hv q
  case t1 => intro st v; exact StoreE.run XO (gtok XO) 5 [] [] (by kernel_rfl) trivial I
  case t2 => intro st v; exact GsT.last (GsT.yieldI I (by kernel_rfl) (EvE.name (LdE.locF I.ok .set (by rw [I.kind]; kernel_rfl)) (by decide)) rfl)
  case t3 => intro st v; exact EvE.name (LdE.locF I.ok .set (by rw [I.kind]; kernel_rfl)) (by decide)
end
end Mine
end
section
open PySem PySem.W PySem.Calls PyProof.Rows
set_option linter.all false
set_option maxRecDepth 100000
namespace Mine
section
variable {X : SX} {env : Env} {d : Nat} {st st' st₁ st₂ : St} {led ledf : List MObj} {fz kp : FH} {kg : Nat → Option GenState} {ρ : List Addr} {s : Shared}

theorem keepAt_right {prI kp : FH} {S : Addr} {o : Obj} (h : prI S = none) : keepAt (orF prI kp) S o = orF prI (keepAt kp S o) := by
  funext b
  unfold keepAt orF
  by_cases hb : b = S
  · subst hb; rw [h] <;> simp
  · simp [hb]

theorem extLoop (XO : SXOk X) {g : Nat} {a S : Addr} {res : Value} : ∀ (ys : List (MVal × List MObj)) (st : St) {A fz prI kp pgI kg ρ s gs acc c done} (R : Result → Shared → Prop), AOk A (d + 1 + 1) → GenIs X d ledf ρ ys st.led fz prI pgI gs → VRel fz ρ (.gen g) (.ref a) →
    Disj prI kp → Disj pgI kg → kg g = none → pgI g = none → Rel X env fz (orF prI kp) (orF (one_ g gs) (orF pgI kg)) ρ st s → Apart X env fz (orF prI kp) ρ S → s.heap.get? S = some (lstO acc c) → VRels fz ρ done acc.toList → done.length + ys.length ≤ 10000000 →
    (∀ fz' s' acc' c', Grow fz ρ fz' ρ → Rel X env fz' kp kg ρ { st with led := ledf } s' → Apart X env fz' kp ρ S → s'.heap.get? S = some (lstO acc' c') → VRels fz' ρ (done ++ ys.map (·.1)) acc'.toList → R (.ok (.ret res)) s') →
    codeAny (mdl X) A (.builtin "list.extend.loop" ⟨[.ref S, .ref a, res], []⟩) R s := by
  intro ys
  induction ys with
  | nil =>
    intro st A fz prI kp pgI kg ρ s gs acc c done R ok G hv dp dg hg hpg RR aS hS hdone hz q
    obtain ⟨n1, n2⟩ := orF_none aS.kp
    refine codeAny_builtin F.entry_extend_loop ?_
    rw [Around.under_plainId F.plain_extend_loop _]
    show wpAny _ A.in1 (pyNext (.ref a) >>= _) _ _ s
    have R₁ := RR.put aS hS
    rw [keepAt_right n1] at R₁
    have dp' : Disj prI (keepAt kp S (lstO acc c)) := fun y => by
      by_cases hy : y = S
      · subst hy; exact .inl n1
      · rcases dp y with h | h
        · exact .inl h
        · exact .inr (by unfold keepAt; rw [if_neg hy]; exact h)
    refine wpAny_bind (R₁.nextG XO (ok.in1') G hv dp' dg hg hpg (fun _ fz' s' g' R' => ?_) fun v led' r e => nomatch e)
    obtain ⟨R₂, aS₂, hS₂⟩ := R'.unput n2
    exact wpAny_pure (q fz' s' acc c g' R₂ aS₂ hS₂ (by simpa using VRels.grow g' _ _ hdone))
  | cons y r ih =>
    obtain ⟨v, led'⟩ := y
    intro st A fz prI kp pgI kg ρ s gs acc c done R ok G hv dp dg hg hpg RR aS hS hdone hz q
    obtain ⟨n1, n2⟩ := orF_none aS.kp
    refine codeAny_builtin F.entry_extend_loop ?_
    rw [Around.under_plainId F.plain_extend_loop _]
    show wpAny _ A.in1 (pyNext (.ref a) >>= _) _ _ s
    have R₁ := RR.put aS hS
    rw [keepAt_right n1] at R₁
    have dp' : Disj prI (keepAt kp S (lstO acc c)) := fun y => by
      by_cases hy : y = S
      · subst hy; exact .inl n1
      · rcases dp y with h | h
        · exact .inl h
        · exact .inr (by unfold keepAt; rw [if_neg hy]; exact h)
    refine wpAny_bind (R₁.nextG XO (ok.in1') G hv dp' dg hg hpg (fun e => nomatch e) fun v₁ led₁ r₁ e fz₁ u gs₁ pr₁ pg₁ s₁ g₁ hu G₁ dp₁ dg₁ hpg₁ R₂ => ?_)
    cases e
    have m1 : pr₁ S = none := by
      rcases dp₁ S with h | h
      · exact h
      · simp [keepAt] at h
    rw [← keepAt_right m1] at R₂
    obtain ⟨R₃, aS₃, hS₃⟩ := R₂.unput (by unfold orF; rw [m1]; exact n2)
    have dk : Disj pr₁ kp := fun y => by
      by_cases hy : y = S
      · subst hy; exact .inl m1
      · rcases dp₁ y with h | h
        · exact .inl h
        · unfold keepAt at h; rw [if_neg hy] at h; exact .inr h
    have hdone' := VRels.grow g₁ _ _ hdone
    have hsz : acc.size = done.length := by simpa using VRels.length hdone
    show wpAny _ A.in1 (updateSeq S (·.push u) >>= _) _ _ _
    refine wpAny_bind ?_
    refine wpAny_updateSeq hS₃ rfl (wpAny_pure ⟨plainId_quiet F.plain_extend_loop _, ?_⟩) (by rw [sizeLine_eq]; simp only [List.length_cons] at hz; omega) (by show (acc.push u).size ≤ sizeLine + 1; rw [Array.size_push, sizeLine_eq]; simp only [List.length_cons] at hz; omega)
    have R₄ := R₃.same (tk := s₁.toks) aS₃ (h' := s₁.heap.update S (Obj.mapSeq (·.push u))) Heap.upd_same
    refine ih { st with led := led' } (done := done ++ [v]) R ok G₁ (VRel.grow g₁ _ _ hv) dk dg₁ hg hpg₁ R₄ aS₃ (Heap.get?_update_self _ hS₃ rfl) ?_ (by simp only [List.length_append, List.length_cons, List.length_nil] at hz ⊢; omega) fun fz' s' acc' c' g' R' a' hS' hv' => q fz' s' acc' c' (g₁.trans g') R' a' hS' (by simpa using hv')
    rw [Array.toList_push]
    exact VRels.append hdone' (by simp only [VRels]; exact ⟨_, _, rfl, hu, rfl⟩)
end
end Mine
end
section
open PySem PySem.W PySem.Calls PyProof.Rows
set_option linter.all false
set_option maxRecDepth 100000
namespace Mine
section
variable {X : SX} {env : Env} {d : Nat} {st st' st₁ st₂ : St} {led ledf : List MObj} {fz kp prI : FH} {kg pgI : Nat → Option GenState} {ρ : List Addr} {s : Shared}

/-- list(generator) -/
theorem listGen (XO : SXOk X) {A : Around} {g : Nat} {gs : GenState} {a : Addr} {ys : List (MVal × List MObj)} {Q : Value → Shared → Prop} {E : Value → Shared → Prop} (ok : AOk A (d + 1 + 1 + 1)) (G : GenIs X d ledf ρ ys st.led fz prI pgI gs) (hv : VRel fz ρ (.gen g) (.ref a))
    (dp : Disj prI kp) (dg : Disj pgI kg) (hg : kg g = none) (hpg : pgI g = none) (R : Rel X env fz (orF prI kp) (orF (one_ g gs) (orF pgI kg)) ρ st s) (hz : ys.length ≤ 10000000)
    (q : ∀ fz' v s', Grow fz ρ fz' ρ → Rel X env fz' kp kg ρ { st with led := ledf } s' → VRel fz' ρ (.lst (ys.map (·.1))) v → Q v s') : wpAny (mdl X) A (call (.type "list") [.ref a]) Q E s := by
  obtain ⟨a', e, hG⟩ := gen_is R.toLRel hv
  cases e
  have hn : s.heap.get? s.heap.objs.size = none := none_of_size
  have aS : Apart X env fz (orF prI kp) ρ s.heap.objs.size := Apart.new R hn
  have hSa : s.heap.objs.size ≠ a := fun e => by
    obtain ⟨o, nm, qn, ho, _⟩ := hG
    rw [← e, hn] at ho; cases ho
  refine callType_codes (Q₁ := fun obj s₁ => obj = .ref s.heap.objs.size ∧ s₁ = { s with heap := s.heap.push { cls := .type "list", data := .seq #[] } }) F.called_list (F.typeCall_list_1 _) F.entry_list_init
    (code_list_new _ ⟨rfl, rfl⟩) fun obj s₁ h₁ => ?_
  obtain ⟨rfl, rfl⟩ := h₁
  have hS : (s.heap.push { cls := .type "list", data := .seq #[] }).get? s.heap.objs.size = some (lstO #[] 0) := Heap.get?_push_size _ rfl
  have k1 : ∀ b o, s.heap.get? b = some o → (s.heap.push { cls := .type "list", data := .seq #[] }).get? b = some o := fun b o e => Heap.get?_push_of_some _ e
  refine ⟨⟨_, hS, rfl⟩, F.args_list_init_2 _ _, ?_⟩
  show wpAny _ A.in1.in1 (do let old ← Builtin.List.listItems (.ref s.heap.objs.size); Builtin.List.listUpdate (.ref s.heap.objs.size) (fun _ => #[]); letGo old.toList.reverse; Builtin.List.listExtendWith (.ref s.heap.objs.size) (.ref a) .none) _ _ _
  refine wpAny_bind ?_
  unfold Builtin.List.listItems
  refine wpAny_bind (wpAny_seqItems hS rfl (wpAny_pure ?_))
  show wpAny _ A.in1.in1 (updateSeq s.heap.objs.size (fun _ => #[]) >>= fun _ => letGo (#[] : Array Value).toList.reverse >>= fun _ => Builtin.List.listExtendWith (.ref s.heap.objs.size) (.ref a) .none) _ _ _
  refine wpAny_bind (wpAny_updateSeq hS rfl ?_)
  have hS₂ := Heap.get?_update_self (Obj.mapSeq (fun _ => (#[] : Array Value))) hS rfl
  have k2 : ∀ b o, b ≠ s.heap.objs.size → (s.heap.push { cls := .type "list", data := .seq #[] }).get? b = some o → ((s.heap.push { cls := .type "list", data := .seq #[] }).update s.heap.objs.size (Obj.mapSeq (fun _ => (#[] : Array Value)))).get? b = some o :=
    fun b o hb e => (Heap.get?_update_other _ _ (Ne.symm hb)).trans e
  refine wpAny_bind (wpAny_letGo ?_)
  generalize hH : (s.heap.push { cls := .type "list", data := .seq #[] }).update s.heap.objs.size (Obj.mapSeq (fun _ => (#[] : Array Value))) = H at hS₂ k2 ⊢
  have G₂ : ({ s with heap := H } : Shared).heap.IsGen a g := by
    obtain ⟨o, nm, qn, ho, r⟩ := hG
    exact ⟨o, nm, qn, k2 _ _ (Ne.symm hSa) (k1 _ _ ho), r⟩
  unfold Builtin.List.listExtendWith
  refine wpAny_bind (wpAny_typeOf G₂.typeIs ?_)
  have h1 : Builtin.List.listSameRef (.ref s.heap.objs.size) (.ref a) = false := by simp [Builtin.List.listSameRef, hSa]
  have h2 : (Value.type "generator" == Value.type "list") = false := by decide
  have h3 : (Value.type "generator" == Value.type "tuple") = false := by decide
  simp only [h1, h2, h3, Bool.or_false, Bool.false_eq_true, if_false]
  refine wpAny_bind (wpAny_pyIter_gen G₂ ?_)
  refine wpAny_bind (wpAny_holding ?_)
  unfold Builtin.List.listLengthHint
  refine wpAny_bind (wpAny_specialOf G₂.typeIs F.gen_no_len ?_)
  show wpAny _ A.in1.in1 (specialOf (Value.ref a) (Str.ofString "__length_hint__") >>= _) _ _ _
  refine wpAny_bind (wpAny_specialOf G₂.typeIs F.gen_no_hint ?_)
  refine wpAny_pure ?_
  show wpAny _ A.in1.in1 (rule "list.extend.makes-room" >>= fun _ => Builtin.List.listTouch (.ref s.heap.objs.size) >>= fun _ =>
    again (.builtin "list.extend.loop" ⟨[.ref s.heap.objs.size, .ref a, .none], []⟩)) _ _ _
  refine wpAny_bind (wpAny_rule ?_)
  refine wpAny_bind ?_
  show wpAny _ A.in1.in1 (updateSeq s.heap.objs.size (·.push .none) >>= fun _ => updateSeq s.heap.objs.size (·.pop)) _ _ _
  refine wpAny_bind (wpAny_updateSeq hS₂ rfl ?_)
  have hS₃ := Heap.get?_update_self (Obj.mapSeq (·.push Value.none)) hS₂ rfl
  refine wpAny_updateSeq (hz := by seq_fits) hS₃ rfl ?_
  have hS₄ := Heap.get?_update_self (Obj.mapSeq (·.pop)) hS₃ rfl
  have k3 : ∀ b o, b ≠ s.heap.objs.size → H.get? b = some o → ((H.update s.heap.objs.size (Obj.mapSeq (·.push Value.none))).update s.heap.objs.size (Obj.mapSeq (·.pop))).get? b = some o :=
    fun b o hb e => (Heap.get?_update_other _ _ (Ne.symm hb)).trans ((Heap.get?_update_other _ _ (Ne.symm hb)).trans e)
  have R₂ := R.keep (h' := (H.update s.heap.objs.size (Obj.mapSeq (·.push Value.none))).update s.heap.objs.size (Obj.mapSeq (·.pop))) (tk := s.toks) fun b o e => by
    have hb : b ≠ s.heap.objs.size := Nat.ne_of_lt (Heap.lt_size e)
    exact k3 b o hb (k2 b o hb (k1 b o e))
  refine wpAny_pure ⟨plainId_quiet F.plain_extend_loop _, extLoop XO ys st (env := env) (A := A.in1) (acc := #[]) (done := []) _ (ok.in1') G hv dp dg hg hpg R₂ aS hS₄ (by simp [VRels]) (by simpa using hz) fun fz' s' acc' c' g' R' a' hS' hv' => ?_⟩
  have R'' := R'.freeze a' hS'
  have g'' : Grow fz' ρ _ ρ := grow_upd (o := lstO acc' c') a'.fz
  refine ⟨rfl, q _ _ _ (g'.trans g'') R'' ?_⟩
  simp only [VRel]
  exact ⟨_, acc', c', rfl, upd_self .., VRels.grow g'' _ _ (by simpa using hv')⟩
end
end Mine
end
section
open PySem PySem.W PySem.Calls PyProof.Rows
set_option linter.all false
set_option maxRecDepth 100000
namespace Mine
section
variable {X : SX} {env : Env} {d : Nat} {st st' st₁ st₂ : St} {led led' ledf : List MObj}

/-- «for x in <a generator that is made>: yield x» -/
theorem GsT.genFor1 (XO : SXOk X) {target iter : PySem.Expr} {body : List Stmt} {pos : Pos} {x : Str} {ys : List (MVal × List MObj)} (h1 : MkG X (d + 1) d env (eval iter env) st ys ledf) (hpl : plainTarget target = true)
    (htg : ∀ (st : St) v, StoreE X env (d + 1) target v st (st.put x v)) (hbd : ∀ (st : St) v, GsT X (d + 1) env (execs body env) (st.put x v) [(v, st.led)] .next (st.put x v))
    (hx : st.loc.lookup x = none) (hs : ∀ x, foldedSetIterable iter env x = pure x) :
    GsT X (d + 1) env (exec (.For target iter body [] pos) env) st ys .next (st.wled ledf) := by
  intro A c fs K H gd lv outs ledF fz pr pg kp kg ρ s ok F hgd d1 d2 R q
  rw [exec_For, bind_wrap]
  refine Sg.wrap (wpAny_standAt ?_)
  rw [bind_wrap]
  refine Sg.wrap (h1 (A.over c fs) fz _ _ ρ s _ _ (F.over A ok) R fun fz₁ g gs a prI s₁ g₁ G hv dp hg R₁ => ?_)
  rw [hs, pure_bind, bind_wrap]
  refine Sg.wrap (wpAny_standAt ?_)
  obtain ⟨a', e, hG⟩ := gen_is R₁.toLRel hv
  cases e
  rw [bind_wrap]
  refine Sg.wrap (wpAny_holding (wpAny_pyIter_gen hG ?_))
  refine Sg.call fun p => ?_
  obtain ⟨n1, n2⟩ := orF_none hg
  have e0 : orF (one_ g gs) (orF pg kg) = orF (one_ g gs) (orF nil_ (orF pg kg)) := by rw [orF_nil]
  rw [e0] at R₁
  refine (from_loop XO hpl htg hbd ys st _ (outs := outs) (ledF := ledF) hx ok F hgd d1 d2 G hv dp .nil hg rfl R₁ fun A' fz' kp' kg' s' ok' g' d1' d2' R' => ?_).mono fun e s' => OutP.mono g₁
  exact q A' fz' kp' kg' s' .next ok' (g₁.trans g') d1' d2' R' rfl

/-- a call that gives a generator that has not begun -/
def GenF (X : SX) (d dI : Nat) (f : MVal) (args : List MVal) (led : List MObj) (ys : List (MVal × List MObj)) (led' ledf : List MObj) : Prop :=
  ∀ A fz kp kg ρ s fv us (Rz : Result → Shared → Prop), AOk A d → LRel X fz kp kg ρ led s → VRel fz ρ f fv → VRels fz ρ args us →
    (∀ fz' ρ' g gs a prI s', Grow fz ρ fz' ρ' → GenIs X dI ledf ρ' ys led' fz' prI nil_ gs → VRel fz' ρ' (.gen g) (.ref a) → Disj prI kp → kg g = none → LRel X fz' (orF prI kp) (orF (one_ g gs) kg) ρ' led' s' → Rz (.ok (.ret (.ref a))) s') → codeAny (mdl X) A (.call fv ⟨us, []⟩) Rz s
theorem cxF_is' {fd : FuncData} (hk : fd.scope.kind = .function) (hg : fd.globals = mainGlobals) (hb : fd.builtins = builtinsNs) (L a : Addr) : Is (callEnv fd L a) (cxF fd) where
  ok := ⟨hk, hg, hb⟩
  sc := rfl
  code := fun c h => by
    show fd.code = .ref c
    unfold cxF codeA at h
    dsimp only at h
    split at h
    · rename_i e; cases h; exact e
    · cases h
  qual := rfl
theorem GenF.fn (XO : SXOk X) {f : Addr} {fd : FuncData} {b pre : List Stmt} {e : PySem.Expr} {pos : Pos} {dI : Nat} {args : List MVal} {bm : List (Str × MVal)} {ys : List (MVal × List MObj)} (O : FnOk X f fd b) (hgen : fd.scope.isGenerator = false) (hcell : (fd.scope.names.all fun x => x.2 != .cell) = true)
    (hbind : BindsTo' X fd args [] bm) (hloc : (bm.all fun x => decide (fd.scope.names.lookup x.1 = some .local)) = true) (hnd : (bm.map (·.1)).Nodup) (hb : b = pre ++ [.Return (some e) pos])
    (body : ∀ env, Is env (cxF fd) → ExL X env d pre ⟨bm, [], led⟩ .next st₁ ∧ MkG X d dI env (eval e env) st₁ ys ledf) (hl : st₁.led = led') :
    GenF X (d + 1) dI (.obj (.ref f)) args led ys led' ledf := by
  intro A fz kp kg ρ s fv vs Rz ok R hf hv q
  have hk : KRels fz ρ [] [] := ⟨rfl, by simp [VRels]⟩
  simp only [VRel] at hf
  subst hf
  obtain ⟨oc, od, sl, hK⟩ := O.look
  have KI := R.kin XO
  have ho := KI _ _ hK
  obtain ⟨binds, hb1, hb2, hb3⟩ := hbind fz ρ vs [] R.hb hv hk
  have hB : BindsTo s fd ⟨vs, []⟩ binds := kp_binds KI hb1
  have hcell' : ∀ x ∈ fd.scope.names, x.2 ≠ .cell := fun x hx e => by
    have := List.all_eq_true.mp hcell x hx
    rw [e] at this
    exact absurd this (by decide)
  have hloc' : ∀ x ∈ binds, fd.scope.names.lookup x.1 = some .local := fun x hx => by
    have h1 : x.1 ∈ bm.map (·.1) := hb2 ▸ List.mem_map_of_mem hx
    obtain ⟨y, hy, e⟩ := List.mem_map.mp h1
    have := of_decide_eq_true (List.all_eq_true.mp hloc y hy)
    rw [← e]; exact this
  refine codeAny_call_def (fd := fd) (body := b) ok.room ho rfl (XO.nolimit.keeps R.hbk) (codeRec_of KI O.code) O.body hB hcell' hloc' (fun h₀ hns hkeep => ?_) O.co hgen O.kind
  have eL : (callEnv fd s.heap.objs.size f).locals = s.heap.objs.size := rfl
  have hnb : (binds.map (·.1)).Nodup := hb2 ▸ hnd
  have RF := R.frame (env := callEnv fd s.heap.objs.size f) (tk := s.toks + binds.length) (bm := bm) (cs := []) eL hkeep hns (fun x v e => by
    obtain ⟨u, h1, h2⟩ := binds_rel hb2 hb3 (lookup_mem e)
    refine ⟨u, mem_lookup ?_ (List.mem_reverse.mpr h1), h2⟩
    rw [List.map_reverse]; exact (List.reverse_perm _).nodup_iff.mpr hnb) (fun x i e => by cases e)
  obtain ⟨hb1, hb2⟩ := body (callEnv fd s.heap.objs.size f) (cxF_is' O.kind O.glob O.blt _ _)
  subst hb
  rw [execs_app]
  refine wpAny_bind (hb1 (A.deeper _) fz kp kg ρ _ (ok.deeper _) RF _ _ fun fz' ρ' fl s' R' g hfl => ?_)
  have e0 : fl = .next := hfl
  subst e0
  refine wpAny_execs_cons (wpAny_Return_some (hb2 (A.deeper _) fz' kp kg ρ' s' _ _ (ok.deeper _) R' fun fz₂ gn gs a prI s₂ g₂ G hv' dp hg R₂ => ?_))
  have RL := R₂.toLRel
  rw [hl] at RL G
  exact q fz₂ ρ' gn gs a prI s₂ (g.trans g₂) G hv' dp hg RL

/-- such a call as an expression: the ledger may grow -/
def MkG2 (X : SX) (d dI : Nat) (env : Env) (m : Sem Value) (st : St) (ys : List (MVal × List MObj)) (led' ledf : List MObj) : Prop :=
  ∀ A fz kp kg ρ s (Q : Value → Shared → Prop) (E : Value → Shared → Prop), AOk A d → Rel X env fz kp kg ρ st s →
    (∀ fz' ρ' g gs a prI s', Grow fz ρ fz' ρ' → GenIs X dI ledf ρ' ys led' fz' prI nil_ gs → VRel fz' ρ' (.gen g) (.ref a) → Disj prI kp → kg g = none → Rel X env fz' (orF prI kp) (orF (one_ g gs) kg) ρ' (st.wled led') s' → Q (.ref a) s') → wpAny (mdl X) A m Q E s
theorem MkG2.meth {o : PySem.Expr} {name : Str} {apos pos : Pos} {args : List PySem.Expr} {a f : MVal} {first vs : List MVal} {dI : Nat} {ys : List (MVal × List MObj)}
    (ho : EvE X env d o st a st) (hm : MtE X env d a name st f first st) (hk : KpE X f) (ha : EvL X env d pos args st vs st) (hc : GenF X d dI f (first ++ vs) st.led ys led' ledf)
    (hbase : attributeBase o name env (eval o env) = eval o env) (hfew : methodCallForm (args.length + 0) (backTo pos (starEach args env)) (backToKw pos (keywordEach [] env)) = true) (hline : (apos.endLine == pos.line) = true) (hst : (backTo pos (starEach args env)).any (·.1) = false) :
    MkG2 X d dI env (eval (.Call (.Attribute o name apos) args [] pos) env) st ys led' ledf := by
  intro A fz kp kg ρ s Q E ok R q
  rw [arm_eval_Call, hbase]
  refine wpAny_bind (ho A fz kp kg ρ s ok R _ _ fun fz₁ ρ₁ va s₁ R₁ g₁ r₁ => wpAny_bind (wpAny_standAt ?_))
  have e₁ := same_ρ R.toLRel R₁.toLRel g₁ rfl
  subst e₁
  have hpos : methodCallPos true o env apos pos = pure pos := by unfold methodCallPos; simp [hline]
  unfold methodCall
  rw [show args.length + ([] : List Keyword).length = args.length + 0 from rfl, hfew]
  refine wpAny_bind (wpAny_holding (hm A fz₁ kp kg ρ₁ s₁ va _ ok R₁ r₁ _ _ fun fz₂ ρ₂ p s₂ R₂ g₂ r₂ => ?_))
  have e₂ := same_ρ R₁.toLRel R₂.toLRel g₂ rfl
  subst e₂
  refine wpAny_bind (wpAny_of_eq hpos ?_)
  refine callWith_of (P := fun h => ∃ k, (k = Keeper.frame ∨ k = Keeper.machine ∨ k = Keeper.boundFrame) ∧ Looks (mdl X) h (keeperOf p.1) k) (by rw [hst]; rfl) (fun _ h => h) ?_
  refine evalArgs_all hst rfl ?_
  refine ha A fz₂ kp kg ρ₂ s₂ ok R₂ _ _ fun fz₃ ρ₃ us s₃ R₃ g₃ r₃ => ?_
  have e₃ := same_ρ R₂.toLRel R₃.toLRel g₃ rfl
  subst e₃
  refine wpAny_evalAll_nil ?_
  have hf₃ := VRel.grow g₃ _ _ r₂.1
  refine ⟨hk _ _ _ _ _ _ _ R₃.toLRel hf₃, ?_⟩
  obtain ⟨oL, eL, LH⟩ := R₃.hide
  refine wpAny_call (hc A fz₃ _ kg ρ₃ s₃ p.1 _ _ ok LH hf₃ (VRels.append (VRels.grow g₃ _ _ r₂.2) r₃) fun fz' ρ' g gs a prI s' g₄ G hv dp hg L => ?_)
  have n1 : prI env.locals = none := by
    rcases dp env.locals with h | h
    · exact h
    · simp at h
  have dk : Disj prI kp := fun y => by
    by_cases hy : y = env.locals
    · subst hy; exact .inl n1
    · rcases dp y with h | h
      · exact .inl h
      · dsimp only at h; rw [if_neg hy] at h; exact .inr h
  have ekp : orF prI (fun b => if b = env.locals then some oL else kp b) = (fun b => if b = env.locals then some oL else orF prI kp b) := by
    funext b
    unfold orF
    by_cases hb : b = env.locals
    · subst hb; rw [n1] <;> simp
    · simp [hb]
  rw [ekp] at L
  exact q fz' ρ' g gs a prI s' (((g₁.trans g₂).trans g₃).trans g₄) G hv dk hg (R₃.back2 eL (kp' := orF prI kp) (by unfold orF; rw [n1]; exact R₃.offL.2.1) L g₄)

/-- «x = <a generator>», «if not isinstance(x, ..): x = list(x)» -/
theorem ExL.genList (XO : SXOk X) (O : EnvOk env) {x : Str} {value t ln xn : PySem.Expr} {pos p pos2 ipos p2 cpos : Pos} {dI : Nat} {ys : List (MVal × List MObj)} (h1 : MkG2 X (dI + 3) dI env (eval value env) st ys led' ledf) (hl : env.kindOf x = some .local)
    (hs : swapsWithSole [.Name x p] value pos.line env = pure false) (hw : swappedStores [.Name x p] value env = pure none)
    (ht : ∀ g, TsE X env (dI + 3) t ((st.wled led').put x (.gen g)) true ((st.wled led').put x (.gen g)))
    (hln : ∀ st, EvE X env (dI + 3) ln st (.obj (.type "list")) st) (hxn : ∀ g, EvE X env (dI + 3) xn ((st.wled led').put x (.gen g)) (.gen g) ((st.wled led').put x (.gen g)))
    (hce : eval (.Call ln [xn] [] cpos) env = (do callWith cpos (← eval ln env) [] (backTo cpos (starEach [xn] env)) (backToKw cpos (keywordEach [] env)))) (hst : starEach [xn] env = [(false, eval xn env)])
    (hs2 : swapsWithSole [.Name x p2] (.Call ln [xn] [] cpos) pos2.line env = pure false) (hw2 : swappedStores [.Name x p2] (.Call ln [xn] [] cpos) env = pure none) (hz : ys.length ≤ 10000000) :
    ExL X env (dI + 3) [.Assign [.Name x p] value pos, .If t [.Assign [.Name x p2] (.Call ln [xn] [] cpos) pos2] [] ipos] st .next ((st.wled ledf).put x (.lst (ys.map (·.1)))) := by
  intro A fz kp kg ρ s ok R Q E q
  refine wpAny_execs_cons (wpAny_Assign_stores (h1 A fz kp kg ρ s _ _ ok R fun fz₁ ρ₁ g gs a prI s₁ g₁ G hv dp hg R₁ => ?_) hs hw)
  have he : (assignEach [PySem.Expr.Name x p] env).map (·.2) = [PySem.assign (.Name x p) env] := rfl
  rw [he]
  refine wpAny_assign_Name (BindE.loc (d := dI + 3) O hl A fz₁ _ _ ρ₁ s₁ _ ok R₁ hv _ _ fun fz₂ ρ₂ _ s₂ R₂ g₂ _ => ?_)
  have e₂ := same_ρ R₁.toLRel R₂.toLRel g₂ rfl
  subst e₂
  refine wpAny_execs_cons (wpAny_If (ht g A fz₂ _ _ ρ₂ s₂ ok R₂ _ _ fun fz₃ ρ₃ b s₃ R₃ g₃ hb => ?_))
  have e₃ := same_ρ R₂.toLRel R₃.toLRel g₃ rfl
  subst e₃ hb
  refine wpAny_execs_cons (wpAny_Assign_stores ?_ hs2 hw2)
  rw [hce]
  refine wpAny_bind (hln _ A fz₃ _ _ ρ₃ s₃ ok R₃ _ _ fun fz₄ ρ₄ fv s₄ R₄ g₄ r₄ => ?_)
  have e₄ := same_ρ R₃.toLRel R₄.toLRel g₄ rfl
  subst e₄
  simp only [VRel] at r₄
  subst r₄
  have hst' : (backTo cpos (starEach [xn] env)).any (·.1) = false := by rw [hst]; rfl
  refine callWith_of (P := fun h => ∃ k, (k = Keeper.frame ∨ k = Keeper.machine ∨ k = Keeper.boundFrame) ∧ Looks (mdl X) h (keeperOf (.type "list")) k) (by rw [hst']; rfl) (fun _ h => h) ?_
  refine evalArgs_all hst' rfl ?_
  refine EvL.cons (pos := cpos) (hxn g) .nil hst A fz₄ _ _ ρ₄ s₄ ok R₄ _ _ fun fz₅ ρ₅ us s₅ R₅ g₅ r₅ => ?_
  have e₅ := same_ρ R₄.toLRel R₅.toLRel g₅ rfl
  subst e₅
  refine wpAny_evalAll_nil ?_
  refine ⟨⟨.machine, .inr (.inl rfl), Looks.of_pure rfl⟩, ?_⟩
  simp only [VRels] at r₅
  obtain ⟨va, rr, rfl, hva, rfl⟩ := r₅
  obtain ⟨a', rfl, _⟩ := gen_is R₅.toLRel hva
  have e0 : orF (one_ g gs) kg = orF (one_ g gs) (orF nil_ kg) := by rw [orF_nil]
  rw [e0] at R₅
  have gg := ((g₂.trans g₃).trans g₄).trans g₅
  show wpAny _ _ (call (.type "list") [.ref a'] []) _ _ _
  refine listGen XO (d := dI) ok (G.grow gg) hva dp .nil hg rfl R₅ hz fun fz₆ v s₆ g₆ R₆ hv₆ => ?_
  have he2 : (assignEach [PySem.Expr.Name x p2] env).map (·.2) = [PySem.assign (.Name x p2) env] := rfl
  rw [he2]
  refine wpAny_assign_Name (BindE.loc (d := dI + 3) O hl A fz₆ _ _ ρ₅ s₆ _ ok R₆ hv₆ _ _ fun fz₇ ρ₇ _ s₇ R₇ g₇ _ => ?_)
  refine wpAny_execs_nil (wpAny_execs_nil ?_)
  have hset : ∀ (l : List (Str × MVal)) (u v : MVal), setA x v (setA x u l) = setA x v l := by
    intro l u v
    induction l with
    | nil => simp [setA]
    | cons p r ih =>
      obtain ⟨y, w⟩ := p
      simp only [setA]
      by_cases h : y = x
      · simp [h, setA]
      · simp [h, setA, ih]
  have R₈ := R₇
  simp only [St.put, St.wled, hset] at R₈
  exact q fz₇ ρ₇ .next s₇ R₈ ((g₁.trans gg).trans (g₆.trans g₇)) rfl
end
end Mine
end
section
open PySem PySem.W PySem.Calls PyProof.Rows
set_option linter.all false
set_option maxRecDepth 100000
namespace Mine
section
variable {prog : Program} {w : World} {hb : Heap} {mg mb : Str → Option Value} {os : OsState} {d : Nat} {led : List MObj}
/-- nested lists of this depth -/
def NL : Nat → List MVal → Prop
  | 0, vs => vs = []
  | n + 1, vs => vs.length ≤ 1000 ∧ ∀ x ∈ vs, ∃ ws, x = .lst ws ∧ NL n ws
def kids : MVal → List MVal
  | .lst ws => ws
  | _ => []
def outsL : Nat → List MVal → List MVal → List (MVal × List MObj)
  | 0, anc, _ => [(.str (Str.ofString "[]"), LE E0 anc)]
  | n + 1, anc, vs => if vs.isEmpty then [(.str (Str.ofString "[]"), LE E0 anc)] else
    itemsL (fun x => outsL n (anc ++ [.lst vs]) (kids x)) (LE E0 (anc ++ [.lst vs])) true vs ++ [(.str (Str.ofString "]"), LE E0 (anc ++ [.lst vs]))]
/-- the ancestors are greater than this list -/
def AncOk (anc : List MVal) (vs : List MVal) : Prop := ∀ x ∈ anc, ∃ ws, x = .lst ws ∧ allData ws = true ∧ sizeOf vs < sizeOf ws
theorem AncOk.notOpen {anc vs : List MVal} (h : AncOk anc vs) : NotOpen anc vs := fun x hx => by
  obtain ⟨ws, e, h1, h2⟩ := h x hx
  exact ⟨ws, e, h1, fun q => by subst q; omega⟩
theorem AncOk.kid {anc vs ws : List MVal} (h : AncOk anc vs) (hd : allData vs = true) (hm : MVal.lst ws ∈ vs) : AncOk (anc ++ [.lst vs]) ws := fun x hx => by
  have h1 := List.sizeOf_lt_of_mem hm
  have h2 : sizeOf (MVal.lst ws) = 1 + sizeOf ws := by simp
  rcases List.mem_append.mp hx with h3 | h3
  · obtain ⟨us, e, h4, h5⟩ := h x h3
    exact ⟨us, e, h4, by omega⟩
  · have := List.mem_singleton.mp h3
    exact ⟨vs, this, hd, by omega⟩
theorem NL.data : ∀ (n : Nat) (vs : List MVal), NL n vs → allData vs = true
  | 0, vs, h => by have e : vs = [] := h; subst e; simp [allData]
  | n + 1, vs, h => by
    have h' := h.2
    clear h
    induction vs with
    | nil => simp [allData]
    | cons x xs ih =>
      obtain ⟨ws, rfl, h1⟩ := h' x List.mem_cons_self
      simp only [allData, MVal.isData, Bool.and_eq_true]
      exact ⟨NL.data n ws h1, ih fun y hy => h' y (List.mem_cons_of_mem _ hy)⟩
theorem genL (XO : SXOk (X0 prog w hb mg mb os)) : ∀ (n : Nat) (anc vs : List MVal), NL n vs → AncOk anc vs → anc.length + n ≤ 1000 →
    GenC (X0 prog w hb mg mb os) (d + 1 + 2 * n) (LE E0 anc) FIL csIL [.lst vs, .int 0] (outsL n anc vs)
  | 0, anc, vs, h, _, _ => by
    have e : vs = [] := h
    subst e
    exact iterL0 XO
  | n + 1, anc, [], _, _, _ => iterL0 (d := d + 2 * (n + 1)) XO |> fun h => by
    have e : d + 2 * (n + 1) + 1 = d + 1 + 2 * (n + 1) := by omega
    rw [e] at h
    exact h
  | n + 1, anc, x :: xs, h, ha, hl => by
    have hd := NL.data _ _ h
    have k := iterS (d := d + 1 + 2 * n) XO (anc := anc) (xs := xs) (x := x) (fo := fun y => outsL n (anc ++ [.lst (x :: xs)]) (kids y)) hd ha.notOpen (by omega) h.1 (fun y hy => by
      obtain ⟨ws, rfl, h1⟩ := h.2 y hy
      exact ⟨ws, rfl, genL XO n (anc ++ [.lst (x :: xs)]) ws h1 (ha.kid hd hy) (by simp; omega)⟩)
    have e : d + 1 + 2 * n + 2 = d + 1 + 2 * (n + 1) := by omega
    rw [e] at k
    exact k
-- _iterencode of a list
abbrev csIT : List (Str × Nat) := csOfE FIT
theorem bindIT {a b : MVal} : BindsC FIT [a, b] [] [("o", a), ("_current_indent_level", b)] :=
  BindsC.tm (args := [a, b]) (kw := []) [("o", .arg 0), ("_current_indent_level", .arg 1)] (by intro _ _ _ _ _ v1 v2; show bindArgs _ _ = _; kernel_rfl)
theorem genIT (XO : SXOk (X0 prog w hb mg mb os)) {anc ws : List MVal} {ys : List (MVal × List MObj)} (hg : GenC (X0 prog w hb mg mb os) d (LE E0 anc) FIL csIL [.lst ws, .int 0] ys) :
    GenC (X0 prog w hb mg mb os) (d + 2) (LE E0 anc) FIT csIT [.lst ws, .int 0] ys := by
  intro A fz kp kg ρ s fv us Rz ok R hf hv q
  refine callG (d := d + 1) XO (kw := []) (ledf := LE E0 anc) (by kernel_rfl) (by kernel_rfl) rfl (by kernel_rfl) bindIT (by kernel_rfl) (by show List.Nodup [Str.ofString "o", Str.ofString "_current_indent_level"]; decide +kernel) (fun L a c' clos => ?_) (fl := .next) (.inl rfl) A fz kp kg ρ s fv us [] Rz ok R hf hv (by simp [KRels, VRels]) q
  have I : Is (envX FIT.qual FIT.scope L a (.ref c') clos) (cxC FIT) := cxC_is (by kernel_rfl) L a c' clos
  refine ⟨⟨[("o", .lst ws), ("_current_indent_level", .int 0)], csIT, LE E0 anc⟩, GsT.last ?_, rfl⟩
  refine GsT.ifF (c := false) (TsE.run XO (gtok XO) 20 [] [] (by kernel_rfl) trivial I) rfl rfl (GsT.last ?_)
  refine GsT.ifF (c := false) (TsE.run XO (gtok XO) 20 [] [] (by kernel_rfl) trivial I) rfl rfl (GsT.last ?_)
  refine GsT.ifF (c := false) (TsE.run XO (gtok XO) 20 [] [] (by kernel_rfl) trivial I) rfl rfl (GsT.last ?_)
  refine GsT.ifF (c := false) (TsE.run XO (gtok XO) 20 [] [] (by kernel_rfl) trivial I) rfl rfl (GsT.last ?_)
  refine GsT.ifF (c := false) (TsE.run XO (gtok XO) 20 [] [] (by kernel_rfl) trivial I) rfl rfl (GsT.last ?_)
  refine GsT.ifT (c := true) (TsE.run XO (gtok XO) 20 [] [] (by kernel_rfl) trivial I) rfl rfl (GsT.last ?_)
  refine GsT.genFor1 (x := "chunk") (ledf := LE E0 anc) XO ?m1 (by kernel_rfl) ?t1 ?t2 (by kernel_rfl) (by intro _; rfl)
  case m1 =>
    refine MkG.call (f := .clo FIL csIL) (vs := [.lst ws, .int 0]) (EvE.run XO (gtok XO) 20 [] [] (by kernel_rfl) trivial I) KpE.clo (.cons (st₁ := ⟨[("o", .lst ws), ("_current_indent_level", .int 0)], csIT, LE E0 anc⟩) (EvE.run XO (gtok XO) 20 [] [] (by kernel_rfl) trivial I) (.cons (st₁ := ⟨[("o", .lst ws), ("_current_indent_level", .int 0)], csIT, LE E0 anc⟩) (EvE.run XO (gtok XO) 20 [] [] (by kernel_rfl) trivial I) .nil)) ?_
    exact fun A fz kp kg ρ s fv us Rz ok R hf hv q => hg A fz kp kg ρ s fv us Rz (ok.mono (Nat.le_succ _)) R hf hv q
  case t1 => intro st v; exact StoreE.run XO (gtok XO) 5 [] [] (by kernel_rfl) trivial I
  case t2 => intro st v; exact GsT.last (GsT.yieldI I (by kernel_rfl) (EvE.name (LdE.locF I.ok .set (by rw [I.kind]; kernel_rfl)) (by decide)) rfl)
end
end Mine
end
section
open PySem PySem.W PySem.Calls PyProof.Rows
set_option linter.all false
set_option maxRecDepth 100000
namespace Mine
section
variable {prog : Program} {w : World} {hb : Heap} {mg mb : Str → Option Value} {os : OsState} {d : Nat} {led : List MObj} {Q : EncQ}
/-- lists of ints and of such lists, of this depth -/
def JV : Nat → List MVal → Prop
  | 0, vs => vs = []
  | n + 1, vs => vs.length ≤ 1000 ∧ ∀ x ∈ vs, (∃ i : Int, x = .int i ∧ i.natAbs.log2 < 1920 ∧ (intS i).length ≤ 2000) ∨ ∃ ws, x = .lst ws ∧ JV n ws
def giftV (o : List MVal → List (MVal × List MObj)) (l : List MObj) : MVal → Str → List (MVal × List MObj)
  | .int i, bf => [(.str (bf ++ intS i), l)]
  | .lst ws, bf => (.str bf, l) :: o ws
  | _, _ => []
def outsV (Q : EncQ) : Nat → List MVal → List MVal → List (MVal × List MObj)
  | 0, anc, _ => [(.str (Str.ofString "[]"), LE Q.enc anc)]
  | n + 1, anc, vs => if vs.isEmpty then [(.str (Str.ofString "[]"), LE Q.enc anc)] else
    itemsG (giftV (fun ws => outsV Q n (anc ++ [.lst vs]) ws) (LE Q.enc (anc ++ [.lst vs]))) Q.isep true vs ++ [(.str (Str.ofString "]"), LE Q.enc (anc ++ [.lst vs]))]
theorem JV.data : ∀ (n : Nat) (vs : List MVal), JV n vs → allData vs = true
  | 0, vs, h => by have e : vs = [] := h; subst e; simp [allData]
  | n + 1, vs, h => by
    have h' := h.2
    clear h
    induction vs with
    | nil => simp [allData]
    | cons x xs ih =>
      have h2 := ih fun y hy => h' y (List.mem_cons_of_mem _ hy)
      rcases h' x List.mem_cons_self with ⟨i, rfl, _⟩ | ⟨ws, rfl, h1⟩
      · simp only [allData, MVal.isData, Bool.and_eq_true]; exact ⟨trivial, h2⟩
      · simp only [allData, MVal.isData, Bool.and_eq_true]
        exact ⟨JV.data n ws h1, h2⟩
theorem genV (XO : SXOk (X0 prog w hb mg mb os)) (hs : Q.isep.length ≤ 1000) : ∀ (n : Nat) (anc vs : List MVal), JV n vs → AncOk anc vs → anc.length + n ≤ 1000 →
    GenC (X0 prog w hb mg mb os) (d + 1 + 2 * n) (LE Q.enc anc) FIL csIL [.lst vs, .int 0] (outsV Q n anc vs)
  | 0, anc, vs, h, _, _ => by
    have e : vs = [] := h
    subst e
    exact iterL0G XO
  | n + 1, anc, [], _, _, _ => by
    have h := iterL0G (d := d + 2 * (n + 1)) (Q := Q) (anc := anc) XO
    have e : d + 2 * (n + 1) + 1 = d + 1 + 2 * (n + 1) := by omega
    rw [e] at h
    exact h
  | n + 1, anc, x :: xs, h, ha, hl => by
    have hd := JV.data _ _ h
    have k := iterG (d := d + 1 + 2 * n) XO (anc := anc) (xs := xs) (x := x) (Q := Q) (gf := giftV (fun ws => outsV Q n (anc ++ [.lst (x :: xs)]) ws) (LE Q.enc (anc ++ [.lst (x :: xs)]))) hd (isopenG XO hd ha.notOpen) (by omega) h.1 hs (fun y hy => by
      rcases h.2 y hy with ⟨i, rfl, h1, h2⟩ | ⟨ws, rfl, h1⟩
      · exact itemInt (d := d + 1 + 2 * n) XO h1 h2
      · exact itemLst (d := d + 1 + 2 * n) XO (genV XO hs n (anc ++ [.lst (x :: xs)]) ws h1 (ha.kid hd hy) (by simp; omega)))
    have e : d + 1 + 2 * n + 2 = d + 1 + 2 * (n + 1) := by omega
    rw [e] at k
    exact k
end
end Mine
end
section
open PySem PySem.W PySem.Calls PyProof.Rows
set_option linter.all false
set_option maxRecDepth 100000
namespace Mine
section
variable {prog : Program} {w : World} {hb : Heap} {mg mb : Str → Option Value} {os : OsState} {d : Nat} {led : List MObj}
abbrev preIE : List Stmt := (fbody t_JSONEncoder_iterencode).dropLast
abbrev stIE (vs : List MVal) : St := ⟨[("self", .insr a_JSONEncoder 0), ("o", .lst vs)], [], [.dct (encF E0)]⟩
theorem preRun (XO : SXOk (X0 prog w hb mg mb os)) {env : Env} (I : Is env (cxF fd_JSONEncoder_iterencode)) {vs : List MVal} :
    ∃ st₁, ExL (X0 prog w hb mg mb os) env (d + 1) preIE (stIE vs) .next st₁ ∧ st₁.led = LE E0 [] ∧ EvE (X0 prog w hb mg mb os) env (d + 1) (match (fbody t_JSONEncoder_iterencode).getLast? with | some (.Return (some (.Call f _ _ _)) _) => f | _ => default) st₁ (.clo FIT csIT) st₁ := by
  refine ⟨⟨[("self", .insr a_JSONEncoder 0), ("o", .lst vs), ("markers", .ref 1), ("_encoder", .obj (.ref a_encode_basestring_ascii)), ("int_as_string_bitcount", .none), ("_iterencode", .clo FIT csIT)], [], LE E0 []⟩, ExL.run XO (gtok XO) 30 [.v (.clo FIT csIT) (LE E0 [])]
    [CallsTo (X0 prog w hb mg mb os) (d + 1) (.obj (.ref a_make_iterencode)) [.ref 1, bdef, encd true, .none, .str ": ", .str ", ", .bool false, .bool false, .bool true, .none, .none] [] [.dct (encF E0), .lst []] (.clo FIT csIT) (LE E0 []), true = true, true = true, true = true, true = true, true = true, true = true, true = true, true = true, true = true] (by kernel_rfl) ⟨mkIt0 XO, rfl, rfl, rfl, rfl, rfl, rfl, rfl, rfl, rfl, trivial⟩ I, rfl, EvE.run XO (gtok XO) 20 [] [] (by kernel_rfl) trivial I⟩
theorem GenF.mono {X : SX} {e e' dI : Nat} {f : MVal} {args : List MVal} {led led' ledf : List MObj} {ys : List (MVal × List MObj)} (h : GenF X e dI f args led ys led' ledf) (hd : e ≤ e') : GenF X e' dI f args led ys led' ledf :=
  fun A fz kp kg ρ s fv us Rz ok R hf hv q => h A fz kp kg ρ s fv us Rz (ok.mono hd) R hf hv q
abbrev ieLast : Option PySem.Expr × Pos := match (fbody t_JSONEncoder_iterencode).getLast? with
  | some (.Return e p) => (e, p)
  | _ => (none, ⟨0, 0, 0, 0⟩)
abbrev iePos : Pos := ieLast.2
abbrev ieE : PySem.Expr := ieLast.1.getD default
abbrev tmIE : List (Str × Tm) := [("self", .arg 0), ("o", .arg 1)]
theorem iterenc (XO : SXOk (X0 prog w hb mg mb os)) {vs : List MVal} {ys : List (MVal × List MObj)} (hg : GenC (X0 prog w hb mg mb os) d (LE E0 []) FIL csIL [.lst vs, .int 0] ys) :
    GenF (X0 prog w hb mg mb os) (d + 4) (d + 2) (.obj (.ref a_JSONEncoder_iterencode)) [.insr a_JSONEncoder 0, .lst vs] [.dct (encF E0)] ys (LE E0 []) (LE E0 []) := by
  refine GenF.fn (d := d + 3) (b := fbody t_JSONEncoder_iterencode) (pre := preIE) (e := ieE) (pos := iePos) (bm := [("self", .insr a_JSONEncoder 0), ("o", .lst vs)]) (st₁ := ⟨[("self", .insr a_JSONEncoder 0), ("o", .lst vs), ("markers", .ref 1), ("_encoder", .obj (.ref a_encode_basestring_ascii)), ("int_as_string_bitcount", .none), ("_iterencode", .clo FIT csIT)], [], LE E0 []⟩) XO ok_JSONEncoder_iterencode (by kernel_rfl) (by kernel_rfl) ?bind (by kernel_rfl) (by show List.Nodup [Str.ofString "self", Str.ofString "o"]; decide +kernel) (by kernel_rfl) (fun env I => ⟨?pre, ?mk⟩) rfl
  case bind => exact BindsTo'.tm (args := [.insr a_JSONEncoder 0, .lst vs]) (kw := []) tmIE (by intro a b S; kernel_rfl)
  case pre =>
    exact ExL.run XO (gtok XO) 30 [.v (.clo FIT csIT) (LE E0 [])]
      [CallsTo (X0 prog w hb mg mb os) (d + 3) (.obj (.ref a_make_iterencode)) [.ref 1, bdef, encd true, .none, .str ": ", .str ", ", .bool false, .bool false, .bool true, .none, .none] [] [.dct (encF E0), .lst []] (.clo FIT csIT) (LE E0 []), true = true, true = true, true = true, true = true, true = true, true = true, true = true, true = true, true = true] (by kernel_rfl) ⟨mkIt0 XO, rfl, rfl, rfl, rfl, rfl, rfl, rfl, rfl, rfl, trivial⟩ I
  case mk =>
    refine MkG.call (f := .clo FIT csIT) (vs := [.lst vs, .int 0]) (EvE.run XO (gtok XO) 20 [] [] (by kernel_rfl) trivial I) KpE.clo (.cons (st₁ := ⟨[("self", .insr a_JSONEncoder 0), ("o", .lst vs), ("markers", .ref 1), ("_encoder", .obj (.ref a_encode_basestring_ascii)), ("int_as_string_bitcount", .none), ("_iterencode", .clo FIT csIT)], [], LE E0 []⟩) (EvE.run XO (gtok XO) 20 [] [] (by kernel_rfl) trivial I) (.cons (st₁ := ⟨[("self", .insr a_JSONEncoder 0), ("o", .lst vs), ("markers", .ref 1), ("_encoder", .obj (.ref a_encode_basestring_ascii)), ("int_as_string_bitcount", .none), ("_iterencode", .clo FIT csIT)], [], LE E0 []⟩) (EvE.run XO (gtok XO) 20 [] [] (by kernel_rfl) trivial I) .nil)) ?_
    exact fun A fz kp kg ρ s fv us Rz ok R hf hv q => genIT (d := d) XO hg A fz kp kg ρ s fv us Rz (ok.mono (Nat.le_succ _)) R hf hv q
end
end Mine
end
section
open PySem PySem.W PySem.Calls PyProof.Rows
set_option linter.all false
set_option maxRecDepth 100000
namespace Mine
section
variable {prog : Program} {w : World} {hb : Heap} {mg mb : Str → Option Value} {os : OsState} {d : Nat} {led : List MObj}
abbrev stTT (vs cs : List MVal) : St := ⟨[("self", .insr a_JSONEncoder 0), ("o", .lst vs), ("chunks", .lst cs)], [], LE E0 []⟩
abbrev stT0 (vs : List MVal) : St := ⟨[("self", .insr a_JSONEncoder 0), ("o", .lst vs)], [], [.dct (encF E0)]⟩
abbrev ttA : PySem.Expr × Pos × PySem.Expr := match sub t_JSONEncoder_to_text 1 with
  | .Assign [.Name _ p] v q => (v, q, .Name "chunks" p)
  | _ => default
theorem ttHead (XO : SXOk (X0 prog w hb mg mb os)) {env : Env} (I : Is env (cxF fd_JSONEncoder_to_text)) {vs : List MVal} {ys : List (MVal × List MObj)} (hz : ys.length ≤ 10000000) (hg : GenC (X0 prog w hb mg mb os) d (LE E0 []) FIL csIL [.lst vs, .int 0] ys) :
    ExL (X0 prog w hb mg mb os) env (d + 5) ((fbody t_JSONEncoder_to_text).take 3) (stT0 vs) .next (stTT vs (ys.map (·.1))) := by
  refine ExL.cons (st₁ := stT0 vs) (ExS.run XO (gtok XO) 20 [] [] (by kernel_rfl) trivial I) ?_
  have OO := I.ok
  refine ExL.genList (dI := d + 2) (x := "chunks") (st := stT0 vs) (led' := LE E0 []) (ledf := LE E0 []) (ys := ys) XO OO ?m (by rw [I.kind]; kernel_rfl) (by rfl) (by rfl) (fun g => ?t) (fun st => ?ln) (fun g => ?xn) (by rfl) (by rfl) (by rfl) (by rfl) hz
  case t => exact TsE.run XO (gtok XO) 20 [] [] (by kernel_rfl) trivial I
  case ln => exact EvE.run XO (gtok XO) 20 [] [] (by kernel_rfl) trivial I
  case xn => exact EvE.run XO (gtok XO) 20 [] [] (by kernel_rfl) trivial I
  case m =>
    refine MkG2.meth (a := .insr a_JSONEncoder 0) (f := .obj (.ref a_JSONEncoder_iterencode)) (first := [.insr a_JSONEncoder 0]) (vs := [.lst vs]) (EvE.run XO (gtok XO) 20 [] [] (by kernel_rfl) trivial I) ?mt ?kp (.cons (st₁ := stT0 vs) (EvE.run XO (gtok XO) 20 [] [] (by kernel_rfl) trivial I) .nil) ((iterenc XO hg).mono (Nat.le_succ _)) (by rfl) (by rfl) (by rfl) (by rfl)
    case mt => exact MtE.fn XO (ds := encF E0) rfl (by kernel_rfl) (by kernel_rfl) (by kernel_rfl) (by kernel_rfl)
    case kp => exact KpE.stat XO (by kernel_rfl)
def itemsS (f : MVal → List Str) : Bool → List MVal → List Str
  | _, [] => []
  | b, x :: xs => (if b then Str.ofString "[" else Str.ofString ", ") :: (f x ++ itemsS f false xs)
/-- the texts that stand for a list, one by one -/
def chunksL : Nat → List MVal → List Str
  | 0, _ => [Str.ofString "[]"]
  | n + 1, vs => if vs.isEmpty then [Str.ofString "[]"] else itemsS (fun x => chunksL n (kids x)) true vs ++ [Str.ofString "]"]
theorem itemsL_fst {f : MVal → List (MVal × List MObj)} {g : MVal → List Str} {l : List MObj} (h : ∀ x, (f x).map (·.1) = (g x).map MVal.str) : ∀ (xs : List MVal) (b : Bool), (itemsL f l b xs).map (·.1) = (itemsS g b xs).map MVal.str
  | [], _ => rfl
  | x :: xs, b => by
    simp only [itemsL, itemsS, List.map_cons, List.map_append, h, itemsL_fst h xs false]
theorem outsL_fst : ∀ (n : Nat) (anc vs : List MVal), (outsL n anc vs).map (·.1) = (chunksL n vs).map MVal.str
  | 0, _, _ => rfl
  | n + 1, anc, vs => by
    simp only [outsL, chunksL]
    split
    · rfl
    · rw [List.map_append, List.map_append, itemsL_fst (g := fun x => chunksL n (kids x)) (fun x => outsL_fst n _ _)]
      rfl
theorem toText (XO : SXOk (X0 prog w hb mg mb os)) {n : Nat} {vs : List MVal} (hv : NL n vs) (hn : n ≤ 1000) (hz : (chunksL n vs).length ≤ 10000000) (hj : JoinOk "" (chunksL n vs) = true) :
    CallsTo (X0 prog w hb mg mb os) (d + 1 + 2 * n + 6) (.obj (.ref a_JSONEncoder_to_text)) [.insr a_JSONEncoder 0, .lst vs] [] [.dct (encF E0)] (.str (Txt.join "" (chunksL n vs))) [.dct (encF E0)] := by
  have hg := genL (d := d) XO n [] vs hv (fun x hx => by cases hx) (by simpa using hn)
  have hl : (outsL n [] vs).length = (chunksL n vs).length := by
    have := congrArg List.length (outsL_fst n [] vs)
    simpa using this
  refine CallsTo.cut (led'' := LE E0 []) ?_ (by decide) rfl (by kernel_rfl) rfl
  refine CallsTo.run2 (d := d + 1 + 2 * n + 5) XO (gtok XO) 300 [.k 3 .next (stTT vs ((outsL n [] vs).map (·.1))), .r (.str (Txt.join "" (chunksL n vs)))] tmIE (.ret (.str (Txt.join "" (chunksL n vs))))
    [∀ (env : Env) (st : St), EnvOk env → AppE (X0 prog w hb mg mb os) env (d + 1 + 2 * n + 5) (.obj (.builtin "str.join")) [.str (Str.ofString ""), .lst ((outsL n [] vs).map (·.1))] [] st (.str (Txt.join "" (chunksL n vs))) st, true = true,
     ∀ (env : Env), Is env (cxF fd_JSONEncoder_to_text) → ExL (X0 prog w hb mg mb os) env (d + 1 + 2 * n + 5) (List.take 3 (fbody t_JSONEncoder_to_text)) (stT0 vs) MFlow.next (stTT vs ((outsL n [] vs).map (·.1)))]
    ok_JSONEncoder_to_text (by intro a b S; kernel_rfl) (by kernel_rfl) (by kernel_rfl) ⟨fun env st _ => ?_, rfl, fun env I => ttHead XO I (by rw [hl]; exact hz) hg, trivial⟩ rfl
  rw [outsL_fst]
  exact AppE.join hj
end
end Mine
end
section
open PySem PySem.W PySem.Calls PyProof.Rows
set_option linter.all false
set_option maxRecDepth 100000
namespace Mine
section
variable {prog : Program} {w : World} {hb : Heap} {mg mb : Str → Option Value} {os : OsState} {d : Nat} {led : List MObj} {skip sk isk dflt : MVal} {tup : Bool}
/-- the settings with plain separators, signs beyond ASCII escaped -/
abbrev QD (skip sk : MVal) (tup : Bool) (isk dflt : MVal) : EncQ := ⟨skip, true, sk, tup, isk, dflt, ", ", ": "⟩
abbrev EQ (skip sk : MVal) (tup : Bool) (isk dflt : MVal) : EncP := (QD skip sk tup isk dflt).enc
/-- the maker of the generators, called -/
def MkIt (prog : Program) (w : World) (hb : Heap) (mg mb : Str → Option Value) (os : OsState) (skip sk : MVal) (tup : Bool) (isk dflt : MVal) : Prop :=
  ∀ d, CallsTo (X0 prog w hb mg mb os) (d + 1) (.obj (.ref a_make_iterencode)) [.ref 1, bdef, encd true, .none, .str ": ", .str ", ", sk, skip, .bool tup, .none, isk] [] [.dct (encF (EQ skip sk tup isk dflt)), .lst []] (.clo FIT csIT) (LE (EQ skip sk tup isk dflt) [])
theorem genITG (XO : SXOk (X0 prog w hb mg mb os)) {anc ws : List MVal} {ys : List (MVal × List MObj)} (hg : GenC (X0 prog w hb mg mb os) d (LE (EQ skip sk tup isk dflt) anc) FIL csIL [.lst ws, .int 0] ys) :
    GenC (X0 prog w hb mg mb os) (d + 2) (LE (EQ skip sk tup isk dflt) anc) FIT csIT [.lst ws, .int 0] ys := by
  intro A fz kp kg ρ s fv us Rz ok R hf hv q
  refine callG (d := d + 1) XO (kw := []) (ledf := LE (EQ skip sk tup isk dflt) anc) (by kernel_rfl) (by kernel_rfl) rfl (by kernel_rfl) bindIT (by kernel_rfl) (by show List.Nodup [Str.ofString "o", Str.ofString "_current_indent_level"]; decide +kernel) (fun L a c' clos => ?_) (fl := .next) (.inl rfl) A fz kp kg ρ s fv us [] Rz ok R hf hv (by simp [KRels, VRels]) q
  have I : Is (envX FIT.qual FIT.scope L a (.ref c') clos) (cxC FIT) := cxC_is (by kernel_rfl) L a c' clos
  refine ⟨⟨[("o", .lst ws), ("_current_indent_level", .int 0)], csIT, LE (EQ skip sk tup isk dflt) anc⟩, GsT.last ?_, rfl⟩
  refine GsT.ifF (c := false) (TsE.run XO (gtok XO) 20 [] [] (by kernel_rfl) trivial I) rfl rfl (GsT.last ?_)
  refine GsT.ifF (c := false) (TsE.run XO (gtok XO) 20 [] [] (by kernel_rfl) trivial I) rfl rfl (GsT.last ?_)
  refine GsT.ifF (c := false) (TsE.run XO (gtok XO) 20 [] [] (by kernel_rfl) trivial I) rfl rfl (GsT.last ?_)
  refine GsT.ifF (c := false) (TsE.run XO (gtok XO) 20 [] [] (by kernel_rfl) trivial I) rfl rfl (GsT.last ?_)
  refine GsT.ifF (c := false) (TsE.run XO (gtok XO) 20 [] [] (by kernel_rfl) trivial I) rfl rfl (GsT.last ?_)
  refine GsT.ifT (c := true) (TsE.run XO (gtok XO) 20 [] [] (by kernel_rfl) trivial I) rfl rfl (GsT.last ?_)
  refine GsT.genFor1 (x := "chunk") (ledf := LE (EQ skip sk tup isk dflt) anc) XO ?m1 (by kernel_rfl) ?t1 ?t2 (by kernel_rfl) (by intro _; rfl)
  case m1 =>
    refine MkG.call (f := .clo FIL csIL) (vs := [.lst ws, .int 0]) (EvE.run XO (gtok XO) 20 [] [] (by kernel_rfl) trivial I) KpE.clo (.cons (st₁ := ⟨[("o", .lst ws), ("_current_indent_level", .int 0)], csIT, LE (EQ skip sk tup isk dflt) anc⟩) (EvE.run XO (gtok XO) 20 [] [] (by kernel_rfl) trivial I) (.cons (st₁ := ⟨[("o", .lst ws), ("_current_indent_level", .int 0)], csIT, LE (EQ skip sk tup isk dflt) anc⟩) (EvE.run XO (gtok XO) 20 [] [] (by kernel_rfl) trivial I) .nil)) ?_
    exact fun A fz kp kg ρ s fv us Rz ok R hf hv q => hg A fz kp kg ρ s fv us Rz (ok.mono (Nat.le_succ _)) R hf hv q
  case t1 => intro st v; exact StoreE.run XO (gtok XO) 5 [] [] (by kernel_rfl) trivial I
  case t2 => intro st v; exact GsT.last (GsT.yieldI I (by kernel_rfl) (EvE.name (LdE.locF I.ok .set (by rw [I.kind]; kernel_rfl)) (by decide)) rfl)
theorem iterencG (XO : SXOk (X0 prog w hb mg mb os)) (hmk : MkIt prog w hb mg mb os skip sk tup isk dflt) (hh : isk.handed = true ∧ skip.handed = true ∧ sk.handed = true) {vs : List MVal} {ys : List (MVal × List MObj)} (hg : GenC (X0 prog w hb mg mb os) d (LE (EQ skip sk tup isk dflt) []) FIL csIL [.lst vs, .int 0] ys) :
    GenF (X0 prog w hb mg mb os) (d + 4) (d + 2) (.obj (.ref a_JSONEncoder_iterencode)) [.insr a_JSONEncoder 0, .lst vs] [.dct (encF (EQ skip sk tup isk dflt))] ys (LE (EQ skip sk tup isk dflt) []) (LE (EQ skip sk tup isk dflt) []) := by
  refine GenF.fn (d := d + 3) (b := fbody t_JSONEncoder_iterencode) (pre := preIE) (e := ieE) (pos := iePos) (bm := [("self", .insr a_JSONEncoder 0), ("o", .lst vs)]) (st₁ := ⟨[("self", .insr a_JSONEncoder 0), ("o", .lst vs), ("markers", .ref 1), ("_encoder", .obj (.ref a_encode_basestring_ascii)), ("int_as_string_bitcount", .none), ("_iterencode", .clo FIT csIT)], [], LE (EQ skip sk tup isk dflt) []⟩) XO ok_JSONEncoder_iterencode (by kernel_rfl) (by kernel_rfl) ?bind (by kernel_rfl) (by show List.Nodup [Str.ofString "self", Str.ofString "o"]; decide +kernel) (by kernel_rfl) (fun env I => ⟨?pre, ?mk⟩) rfl
  case bind => exact BindsTo'.tm (args := [.insr a_JSONEncoder 0, .lst vs]) (kw := []) tmIE (by intro a b S; kernel_rfl)
  case pre =>
    exact ExL.run XO (gtok XO) 30 [.v (.clo FIT csIT) (LE (EQ skip sk tup isk dflt) [])]
      [CallsTo (X0 prog w hb mg mb os) (d + 3) (.obj (.ref a_make_iterencode)) [.ref 1, bdef, encd true, .none, .str ": ", .str ", ", sk, skip, .bool tup, .none, isk] [] [.dct (encF (EQ skip sk tup isk dflt)), .lst []] (.clo FIT csIT) (LE (EQ skip sk tup isk dflt) []), isk.handed = true, true = true, skip.handed = true, sk.handed = true, true = true, true = true, true = true, true = true, true = true] (by kernel_rfl) ⟨hmk _, hh.1, rfl, hh.2.1, hh.2.2, rfl, rfl, rfl, rfl, rfl, trivial⟩ I
  case mk =>
    refine MkG.call (f := .clo FIT csIT) (vs := [.lst vs, .int 0]) (EvE.run XO (gtok XO) 20 [] [] (by kernel_rfl) trivial I) KpE.clo (.cons (st₁ := ⟨[("self", .insr a_JSONEncoder 0), ("o", .lst vs), ("markers", .ref 1), ("_encoder", .obj (.ref a_encode_basestring_ascii)), ("int_as_string_bitcount", .none), ("_iterencode", .clo FIT csIT)], [], LE (EQ skip sk tup isk dflt) []⟩) (EvE.run XO (gtok XO) 20 [] [] (by kernel_rfl) trivial I) (.cons (st₁ := ⟨[("self", .insr a_JSONEncoder 0), ("o", .lst vs), ("markers", .ref 1), ("_encoder", .obj (.ref a_encode_basestring_ascii)), ("int_as_string_bitcount", .none), ("_iterencode", .clo FIT csIT)], [], LE (EQ skip sk tup isk dflt) []⟩) (EvE.run XO (gtok XO) 20 [] [] (by kernel_rfl) trivial I) .nil)) ?_
    exact fun A fz kp kg ρ s fv us Rz ok R hf hv q => genITG (d := d) XO hg A fz kp kg ρ s fv us Rz (ok.mono (Nat.le_succ _)) R hf hv q
abbrev stT0G (skip sk : MVal) (tup : Bool) (isk dflt : MVal) (vs : List MVal) : St := ⟨[("self", .insr a_JSONEncoder 0), ("o", .lst vs)], [], [.dct (encF (EQ skip sk tup isk dflt))]⟩
abbrev stTTG (skip sk : MVal) (tup : Bool) (isk dflt : MVal) (vs cs : List MVal) : St := ⟨[("self", .insr a_JSONEncoder 0), ("o", .lst vs), ("chunks", .lst cs)], [], LE (EQ skip sk tup isk dflt) []⟩
theorem ttHeadG (XO : SXOk (X0 prog w hb mg mb os)) (hmk : MkIt prog w hb mg mb os skip sk tup isk dflt) (hh : isk.handed = true ∧ skip.handed = true ∧ sk.handed = true) {env : Env} (I : Is env (cxF fd_JSONEncoder_to_text)) {vs : List MVal} {ys : List (MVal × List MObj)} (hz : ys.length ≤ 10000000) (hg : GenC (X0 prog w hb mg mb os) d (LE (EQ skip sk tup isk dflt) []) FIL csIL [.lst vs, .int 0] ys) :
    ExL (X0 prog w hb mg mb os) env (d + 5) ((fbody t_JSONEncoder_to_text).take 3) (stT0G skip sk tup isk dflt vs) .next (stTTG skip sk tup isk dflt vs (ys.map (·.1))) := by
  refine ExL.cons (st₁ := stT0G skip sk tup isk dflt vs) (ExS.run XO (gtok XO) 20 [] [] (by kernel_rfl) trivial I) ?_
  have OO := I.ok
  refine ExL.genList (dI := d + 2) (x := "chunks") (st := stT0G skip sk tup isk dflt vs) (led' := LE (EQ skip sk tup isk dflt) []) (ledf := LE (EQ skip sk tup isk dflt) []) (ys := ys) XO OO ?m (by rw [I.kind]; kernel_rfl) (by rfl) (by rfl) (fun g => ?t) (fun st => ?ln) (fun g => ?xn) (by rfl) (by rfl) (by rfl) (by rfl) hz
  case t => exact TsE.run XO (gtok XO) 20 [] [] (by kernel_rfl) trivial I
  case ln => exact EvE.run XO (gtok XO) 20 [] [] (by kernel_rfl) trivial I
  case xn => exact EvE.run XO (gtok XO) 20 [] [] (by kernel_rfl) trivial I
  case m =>
    refine MkG2.meth (a := .insr a_JSONEncoder 0) (f := .obj (.ref a_JSONEncoder_iterencode)) (first := [.insr a_JSONEncoder 0]) (vs := [.lst vs]) (EvE.run XO (gtok XO) 20 [] [] (by kernel_rfl) trivial I) ?mt ?kp (.cons (st₁ := stT0G skip sk tup isk dflt vs) (EvE.run XO (gtok XO) 20 [] [] (by kernel_rfl) trivial I) .nil) ((iterencG XO hmk hh hg).mono (Nat.le_succ _)) (by rfl) (by rfl) (by rfl) (by rfl)
    case mt => exact MtE.fn XO (ds := encF (EQ skip sk tup isk dflt)) rfl (by kernel_rfl) (by kernel_rfl) (by kernel_rfl) (by kernel_rfl)
    case kp => exact KpE.stat XO (by kernel_rfl)
end
end Mine
end
section
open PySem PySem.W PySem.Calls PyProof.Rows
set_option linter.all false
set_option maxRecDepth 100000
namespace Mine
section
variable {prog : Program} {w : World} {hb : Heap} {mg mb : Str → Option Value} {os : OsState} {d : Nat} {led : List MObj} {skip sk isk dflt : MVal} {tup : Bool}
def itemsT (gf : MVal → Str → List Str) (sep : Str) : Bool → List MVal → List Str
  | _, [] => []
  | b, x :: xs => gf x (if b then Str.ofString "[" else sep) ++ itemsT gf sep false xs
def giftT (o : List MVal → List Str) : MVal → Str → List Str
  | .int i, bf => [bf ++ intS i]
  | .lst ws, bf => bf :: o ws
  | _, _ => []
/-- the texts that stand for a list, one by one -/
def chunksV (sep : Str) : Nat → List MVal → List Str
  | 0, _ => [Str.ofString "[]"]
  | n + 1, vs => if vs.isEmpty then [Str.ofString "[]"] else itemsT (giftT (chunksV sep n)) sep true vs ++ [Str.ofString "]"]
theorem itemsT_fst {g : MVal → Str → List (MVal × List MObj)} {h : MVal → Str → List Str} {sep : Str} (hh : ∀ x bf, (g x bf).map (·.1) = (h x bf).map MVal.str) : ∀ (xs : List MVal) (b : Bool), (itemsG g sep b xs).map (·.1) = (itemsT h sep b xs).map MVal.str
  | [], _ => rfl
  | x :: xs, b => by
    simp only [itemsG, itemsT, List.map_append, hh, itemsT_fst hh xs false]
theorem giftT_fst {o : List MVal → List (MVal × List MObj)} {p : List MVal → List Str} {l : List MObj} (h : ∀ ws, (o ws).map (·.1) = (p ws).map MVal.str) (x : MVal) (bf : Str) : (giftV o l x bf).map (·.1) = (giftT p x bf).map MVal.str := by
  cases x <;> simp [giftV, giftT, h]
theorem outsV_fst {Q : EncQ} : ∀ (n : Nat) (anc vs : List MVal), (outsV Q n anc vs).map (·.1) = (chunksV Q.isep n vs).map MVal.str
  | 0, _, _ => rfl
  | n + 1, anc, vs => by
    simp only [outsV, chunksV]
    split
    · rfl
    · rw [List.map_append, List.map_append, itemsT_fst (h := giftT (chunksV Q.isep n)) (fun x bf => giftT_fst (fun ws => outsV_fst n _ _) x bf)]
      rfl
theorem toTextG (XO : SXOk (X0 prog w hb mg mb os)) (hmk : MkIt prog w hb mg mb os skip sk tup isk dflt) (hh : isk.handed = true ∧ skip.handed = true ∧ sk.handed = true)
    (hcut : ([.dct (encF (EQ skip sk tup isk dflt))] : List MObj).all (MObj.refsLt 1) = true) {n : Nat} {vs : List MVal} (hv : JV n vs) (hn : n ≤ 1000) (hz : (chunksV ", " n vs).length ≤ 10000000) (hj : JoinOk "" (chunksV ", " n vs) = true) :
    CallsTo (X0 prog w hb mg mb os) (d + 1 + 2 * n + 6) (.obj (.ref a_JSONEncoder_to_text)) [.insr a_JSONEncoder 0, .lst vs] [] [.dct (encF (EQ skip sk tup isk dflt))] (.str (Txt.join "" (chunksV ", " n vs))) [.dct (encF (EQ skip sk tup isk dflt))] := by
  have hg := genV (d := d) (Q := QD skip sk tup isk dflt) XO (by show (Str.ofString ", ").length ≤ 1000; decide +kernel) n [] vs hv (fun x hx => by cases hx) (by simpa using hn)
  have hf := outsV_fst (Q := QD skip sk tup isk dflt) n [] vs
  have hl : (outsV (QD skip sk tup isk dflt) n [] vs).length = (chunksV ", " n vs).length := by
    have := congrArg List.length hf
    simpa using this
  refine CallsTo.cut (led'' := LE (EQ skip sk tup isk dflt) []) ?_ (by simp) rfl hcut rfl
  refine CallsTo.run2 (d := d + 1 + 2 * n + 5) XO (gtok XO) 300 [.k 3 .next (stTTG skip sk tup isk dflt vs ((outsV (QD skip sk tup isk dflt) n [] vs).map (·.1))), .r (.str (Txt.join "" (chunksV ", " n vs)))] tmIE (.ret (.str (Txt.join "" (chunksV ", " n vs))))
    [∀ (env : Env) (st : St), EnvOk env → AppE (X0 prog w hb mg mb os) env (d + 1 + 2 * n + 5) (.obj (.builtin "str.join")) [.str (Str.ofString ""), .lst ((outsV (QD skip sk tup isk dflt) n [] vs).map (·.1))] [] st (.str (Txt.join "" (chunksV ", " n vs))) st, true = true,
     ∀ (env : Env), Is env (cxF fd_JSONEncoder_to_text) → ExL (X0 prog w hb mg mb os) env (d + 1 + 2 * n + 5) (List.take 3 (fbody t_JSONEncoder_to_text)) (stT0G skip sk tup isk dflt vs) MFlow.next (stTTG skip sk tup isk dflt vs ((outsV (QD skip sk tup isk dflt) n [] vs).map (·.1)))]
    ok_JSONEncoder_to_text (by intro a b S; kernel_rfl) (by kernel_rfl) (by kernel_rfl) ⟨fun env st _ => ?_, rfl, fun env I => ttHeadG XO hmk hh I (by rw [hl]; exact hz) hg, trivial⟩ rfl
  rw [hf]
  exact AppE.join hj
end
end Mine
end
section
open PySem PySem.W PySem.Calls PyProof.Rows
set_option linter.all false
set_option maxRecDepth 100000
namespace Mine
/-- this stands in the text at this place -/
def At (s : Str) (i : Nat) (t : List Nat) : Prop := ∃ p q, s.cps.toList = p ++ (t ++ q) ∧ p.length = i
theorem At.get {s : Str} {i : Nat} {c : Nat} {t : List Nat} (h : At s i (c :: t)) : s.cps[i]? = some c := by
  obtain ⟨p, q, h1, h2⟩ := h
  rw [← Array.getElem?_toList, h1, List.getElem?_append_right (by omega), h2]
  simp
theorem At.left {s : Str} {i : Nat} {a b : List Nat} (h : At s i (a ++ b)) : At s i a := by
  obtain ⟨p, q, h1, h2⟩ := h
  exact ⟨p, b ++ q, by rw [h1]; simp, h2⟩
theorem At.right {s : Str} {i : Nat} {a b : List Nat} (h : At s i (a ++ b)) : At s (i + a.length) b := by
  obtain ⟨p, q, h1, h2⟩ := h
  exact ⟨p ++ a, q, by rw [h1]; simp, by simp [h2]⟩
theorem At.le {s : Str} {i : Nat} {t : List Nat} (h : At s i t) : i + t.length ≤ s.length := by
  obtain ⟨p, q, h1, h2⟩ := h
  have : s.length = s.cps.toList.length := rfl
  rw [this, h1]; simp; omega
theorem At.getD {s : Str} {i : Nat} {t : List Nat} (h : At s i t) {j : Nat} (hj : j < t.length) : s.cps.getD (i + j) 0 = t.getD j 0 := by
  obtain ⟨p, q, h1, h2⟩ := h
  rw [Array.getD_eq_getD_getElem?, List.getD_eq_getElem?_getD, ← Array.getElem?_toList, h1, List.getElem?_append_right (by omega), h2, show i + j - i = j by omega, List.getElem?_append_left hj]
theorem At.whole {s : Str} {t : List Nat} (h : s.cps.toList = t) : At s 0 t := ⟨[], [], by simp [h], rfl⟩
abbrev flatC (cs : List Str) : List Nat := cs.flatMap fun s => s.cps.toList
theorem join_cps : ∀ (cs : List Str), (Txt.join "" cs).cps.toList = flatC cs := by
  have h0 : ∀ cs : List Str, (Str.join (Str.ofString "") cs).cps.toList = flatC cs := by
    intro cs
    induction cs with
    | nil => rfl
    | cons x xs ih =>
      cases xs with
      | nil => simp [Str.join, flatC]
      | cons y ys =>
        show ((x ++ Str.ofString "" ++ Str.join (Str.ofString "") (y :: ys)).cps.toList) = _
        rw [PySem.Str.cps_append, PySem.Str.cps_append, Array.toList_append, Array.toList_append, ih]
        have : (Str.ofString "").cps.toList = [] := by decide +kernel
        rw [this]
        simp [flatC]
  intro cs
  show (Builtin.Str.glued (Str.ofString "") cs).cps.toList = _
  rw [PySem.StrLaws.glued_eq_join]
  exact h0 cs
theorem flat_sum (cs : List Str) : (flatC cs).length = (cs.map (·.length)).sum := by
  induction cs with
  | nil => rfl
  | cons x xs ih =>
    simp only [flatC] at ih
    simp [flatC, ih, Str.length]
theorem joinOk_of {cs : List Str} (h : (flatC cs).length ≤ 10000000) : JoinOk "" cs = true := by
  have hf : ∀ (l : List Str) (a : Nat), l.foldl (fun a x => a + x.length + (Str.ofString "").length) a = a + (l.map (·.length)).sum := by
    have z : (Str.ofString "").length = 0 := by decide +kernel
    intro l
    induction l with
    | nil => intro a; simp
    | cons x xs ih => intro a; rw [List.foldl_cons, ih, List.map_cons, List.sum_cons, z]; omega
  unfold JoinOk
  have e : cs.toArray.foldl (fun a x => a + x.length + (Str.ofString "").length) 0 = (flatC cs).length := by
    rw [List.foldl_toArray, hf, flat_sum]; omega
  show (!Builtin.Str.tooLong (cs.toArray.foldl (fun a x => a + x.length + (Str.ofString "").length) 0)) = true
  rw [e]
  unfold Builtin.Str.tooLong
  simp only [sizeLine, Bool.not_eq_true', decide_eq_false_iff_not, gt_iff_lt, Nat.not_lt]
  omega
/-- the texts of parts, one behind the other -/
def sepT : Bool → List (List Nat) → List Nat
  | _, [] => []
  | b, t :: ts => (if b then [] else [44, 32]) ++ (t ++ sepT false ts)
abbrev lcElt : PySem.Expr → PySem.Expr
  | .ListComp e _ _ _ => e
  | _ => default
abbrev lcGen : PySem.Expr → Option Comprehension
  | .ListComp _ (g :: _) _ _ => some g
  | _ => none
abbrev lcTgt (e : PySem.Expr) : PySem.Expr := match lcGen e with
  | some ⟨t, _, _, _⟩ => t
  | none => default
abbrev lcIfs (e : PySem.Expr) : List PySem.Expr := match lcGen e with
  | some ⟨_, _, f, _⟩ => f
  | none => []
abbrev lcSc : PySem.Expr → Scope
  | .ListComp _ _ s _ => s
  | _ => default
abbrev asVal : Stmt → PySem.Expr
  | .Assign _ e _ => e
  | .Return (some e) _ => e
  | _ => default
abbrev tupE (k : Nat) : PySem.Expr → PySem.Expr
  | .Tuple es _ _ => (es[k]?).getD default
  | _ => default
abbrev subV : PySem.Expr → PySem.Expr
  | .Subscript v _ _ => v
  | _ => default
abbrev cmpR : PySem.Expr → PySem.Expr
  | .Compare _ _ (e :: _) _ => e
  | _ => default
theorem fm1 {α : Type} (g : α → MVal) (l : List α) : l.flatMap (fun x => [g x]) = l.map g := by
  induction l with
  | nil => rfl
  | cons x xs ih => simp [ih]
def isLst : MVal → Bool
  | .lst _ => true
  | _ => false
theorem isLst_of {v : MVal} (h : isLst v = true) : v = .lst (kids v) := by
  cases v <;> first | rfl | cases h
abbrev binL : PySem.Expr → PySem.Expr
  | .BinOp a _ _ _ => a
  | _ => default
abbrev binR : PySem.Expr → PySem.Expr
  | .BinOp _ _ b _ => b
  | _ => default
mutual
theorem data_sh (n : Nat) : ∀ (m : MVal), m.isData = true → m.sh n = m ∧ m.refsLt n = true
  | .none, _ => ⟨rfl, rfl⟩
  | .bool _, _ => ⟨rfl, rfl⟩
  | .int _, _ => ⟨rfl, rfl⟩
  | .str _, _ => ⟨rfl, rfl⟩
  | .tup vs, h => by
    simp only [MVal.isData] at h
    have := datas_sh n vs h
    simp only [MVal.sh, MVal.refsLt]
    exact ⟨congrArg _ this.1, this.2⟩
  | .lst vs, h => by
    simp only [MVal.isData] at h
    have := datas_sh n vs h
    simp only [MVal.sh, MVal.refsLt]
    exact ⟨congrArg _ this.1, this.2⟩
  | .dct _ _, h => by simp [MVal.isData] at h
  | .ref _, h => by simp [MVal.isData] at h
  | .bm _ _, h => by simp [MVal.isData] at h
  | .inst _ _ _, h => by simp [MVal.isData] at h
  | .insr _ _, h => by simp [MVal.isData] at h
  | .clo _ _, h => by simp [MVal.isData] at h
  | .obj _, h => by simp [MVal.isData] at h
  | .rng _ _, h => by simp [MVal.isData] at h
  | .gen _, h => by simp [MVal.isData] at h
  | .fo _ _, h => by simp [MVal.isData] at h
theorem datas_sh (n : Nat) : ∀ (ms : List MVal), allData ms = true → shs n ms = ms ∧ belows n ms = true
  | [], _ => ⟨rfl, rfl⟩
  | x :: xs, h => by
    simp only [allData, Bool.and_eq_true] at h
    obtain ⟨a1, a2⟩ := data_sh n x h.1
    obtain ⟨b1, b2⟩ := datas_sh n xs h.2
    exact ⟨by simp only [shs, a1, b1], by simp only [belows, a2, b2]; rfl⟩
end
section
variable {d : Nat} {led : List MObj}
/-- a call that depends on data alone, whatever the ledger is -/
theorem CallsTo.any {X : SX} {f : MVal} {args : List MVal} {r : MVal} {led' : List MObj} (h : CallsTo X d f args [] [] r led') (hf : ∀ n, f.sh n = f) (ha : allData args = true) (hr : r.isData = true) (hl : led.all (MObj.refsLt led.length) = true) : CallsTo X d f args [] led r led := by
  have k := h.shift led
  rw [hf, (datas_sh _ _ ha).1, (data_sh _ _ hr).1] at k
  simp only [List.map_nil, List.append_nil] at k
  exact k.cut (by simp) (by simp) hl (data_sh _ _ hr).2
end
end Mine
end
section
open PySem PySem.W PySem.Calls PyProof.Rows
set_option linter.all false
set_option maxRecDepth 100000
namespace Mine
section
variable {X : SX} {G : Gt} {env : Env} {c : Cx} {d : Nat} {st st' : St}
theorem CompE.run (XO : SXOk X) (GO : GtOk X G) (n : Nat) (o : List Ans) {target elt : PySem.Expr} {ifs : List PySem.Expr} {xs ys : List MVal} (ps : List Prop) (h : evCL (evN (pr X d) X d G n) c target ifs elt xs st ⟨o, []⟩ = some (ys, st', ⟨[], ps⟩)) (hp : AllP ps) (I : Is env c) : CompE X env d target ifs elt xs st ys st' :=
  (evCL_ok (evN_ok XO GO (pr_ok XO) n) h hp).2 env I
theorem CompE.app {target elt : PySem.Expr} {ifs : List PySem.Expr} {xs ys xs' ys' : List MVal} {a b e : St} (h1 : CompE X env d target ifs elt xs a ys b) (h2 : CompE X env d target ifs elt xs' b ys' e) : CompE X env d target ifs elt (xs ++ xs') a (ys ++ ys') e := by
  induction h1 with
  | nil => exact h2
  | skip k1 k2 _ ih => exact .skip k1 k2 (ih h2)
  | elt k1 k2 k3 _ ih => exact .elt k1 k2 k3 (ih h2)
  | weak s _ ih => exact .weak s (ih h2)
/-- item by item, each from the same state -/
theorem CompE.each {α : Type} {target elt : PySem.Expr} {ifs : List PySem.Expr} (f : α → MVal) (out : α → List MVal) (st : St) : ∀ (l : List α),
    (∀ x ∈ l, ∃ st₂, CompE X env d target ifs elt [f x] st (out x) st₂ ∧ Sub st st₂) → ∃ st', CompE X env d target ifs elt (l.map f) st (l.flatMap out) st' ∧ st'.led = st.led
  | [], _ => ⟨st, .nil, rfl⟩
  | x :: xs, h => by
    obtain ⟨s2, h1, h2⟩ := h x List.mem_cons_self
    obtain ⟨s3, h3, h4⟩ := CompE.each f out st xs fun y hy => h y (List.mem_cons_of_mem _ hy)
    exact ⟨s3, by rw [List.map_cons, List.flatMap_cons]; exact CompE.app (xs := [f x]) h1 (.weak h2 h3), h4⟩
/-- the last lists of the ledger are frozen, one after the other -/
def thaw (n0 : Nat) : Nat → List MObj → MVal → Option (MVal × List MObj)
  | 0, led, r => some (r, led)
  | k + 1, led, r => match led.getLast? with
    | some (.lst vs) => if (decide (n0 ≤ led.dropLast.length) && belows led.dropLast.length vs && (led.dropLast.map (MObj.frz led.dropLast.length (.lst vs))).all (MObj.refsLt led.dropLast.length) && (frz1 led.dropLast.length (.lst vs) r).refsLt led.dropLast.length) = true then
        thaw n0 k (led.dropLast.map (MObj.frz led.dropLast.length (.lst vs))) (frz1 led.dropLast.length (.lst vs) r) else none
    | _ => none
theorem CallsTo.thaw {f : MVal} {args : List MVal} {kw : List (Str × MVal)} {led : List MObj} : ∀ (k : Nat) {led₁ led₂ : List MObj} {r r' : MVal}, CallsTo X d f args kw led r led₁ → Mine.thaw led.length k led₁ r = some (r', led₂) → CallsTo X d f args kw led r' led₂
  | 0, led₁, led₂, r, r', h, e => by
    simp only [Mine.thaw, Option.some.injEq, Prod.mk.injEq] at e
    obtain ⟨rfl, rfl⟩ := e
    exact h
  | k + 1, led₁, led₂, r, r', h, e => by
    unfold Mine.thaw at e
    split at e
    · rename_i vs hq
      split at e
      · rename_i hc
        simp only [Bool.and_eq_true, decide_eq_true_eq] at hc
        obtain ⟨⟨⟨c1, c2⟩, c3⟩, c4⟩ := hc
        have he : led₁ = led₁.dropLast ++ [.lst vs] := by
          rw [List.getLast?_eq_some_iff] at hq
          obtain ⟨ys, q⟩ := hq
          rw [q]; simp
        rw [he] at h
        exact CallsTo.thaw k (h.frz c1 c2 c3 c4) e
      · cases e
    · cases e
end
end Mine
end
section
open PySem PySem.W PySem.Calls PyProof.Rows
set_option linter.all false
set_option maxRecDepth 100000
namespace Mine
mutual
/-- data, as the kit's comparisons know it -/
def MVal.toD : MVal → PyData
  | .bool b => .bool b
  | .int i => .int i
  | .str s => .str s
  | .tup vs => .tuple (toDs vs)
  | .lst vs => .list (toDs vs)
  | _ => .none
def toDs : List MVal → List PyData
  | [] => []
  | x :: xs => x.toD :: toDs xs
end
mutual
/-- data whose texts are fit -/
def MVal.fit : MVal → Bool
  | .none => true
  | .bool _ => true
  | .int _ => true
  | .str s => PyData.strOk s
  | .tup vs => fits vs
  | .lst vs => fits vs
  | _ => false
def fits : List MVal → Bool
  | [] => true
  | x :: xs => x.fit && fits xs
end
mutual
theorem canLay_of : ∀ (m : MVal), m.fit = true → m.toD.canLay0 = true
  | .none, _ => by simp [MVal.toD, PyData.canLay0]
  | .bool _, _ => by simp [MVal.toD, PyData.canLay0]
  | .int _, _ => by simp [MVal.toD, PyData.canLay0]
  | .str s, h => by simpa [MVal.toD, PyData.canLay0, MVal.fit] using h
  | .tup vs, h => by simpa [MVal.toD, PyData.canLay0] using canLays_of vs (by simpa [MVal.fit] using h)
  | .lst vs, h => by simpa [MVal.toD, PyData.canLay0] using canLays_of vs (by simpa [MVal.fit] using h)
  | .dct _ _, h => by simp [MVal.fit] at h
  | .ref _, h => by simp [MVal.fit] at h
  | .bm _ _, h => by simp [MVal.fit] at h
  | .inst _ _ _, h => by simp [MVal.fit] at h
  | .insr _ _, h => by simp [MVal.fit] at h
  | .clo _ _, h => by simp [MVal.fit] at h
  | .obj _, h => by simp [MVal.fit] at h
  | .rng _ _, h => by simp [MVal.fit] at h
  | .gen _, h => by simp [MVal.fit] at h
  | .fo _ _, h => by simp [MVal.fit] at h
theorem canLays_of : ∀ (ms : List MVal), fits ms = true → PyData.canLayAll0 (toDs ms) = true
  | [], _ => by simp [toDs, PyData.canLayAll0]
  | x :: xs, h => by
    simp only [fits, Bool.and_eq_true] at h
    simp [toDs, PyData.canLayAll0, canLay_of x h.1, canLays_of xs h.2]
end
mutual
theorem reads_of {fz : FH} {ρ : List Addr} {h : Heap} (hf : ∀ a o, fz a = some o → h.get? a = some o) : ∀ (m : MVal) (v : Value), m.fit = true → VRel fz ρ m v → ∃ as, Reads h v m.toD as
  | .none, v, _, r => by simp only [VRel] at r; subst r; exact ⟨_, .none⟩
  | .bool b, v, _, r => by simp only [VRel] at r; subst r; exact ⟨_, .bool _⟩
  | .int b, v, _, r => by simp only [VRel] at r; obtain ⟨t, rfl⟩ := r; exact ⟨_, .int _ _⟩
  | .str b, v, _, r => by simp only [VRel] at r; obtain ⟨t, rfl⟩ := r; exact ⟨_, .str _ _⟩
  | .tup vs, v, g, r => by
    simp only [VRel] at r
    obtain ⟨a, arr, rfl, h1, h2⟩ := r
    obtain ⟨as, k⟩ := readsAll_of hf vs _ (by simpa [MVal.fit] using g) h2
    exact ⟨_, .tuple (hf _ _ h1) rfl rfl k⟩
  | .lst vs, v, g, r => by
    simp only [VRel] at r
    obtain ⟨a, arr, ep, rfl, h1, h2⟩ := r
    obtain ⟨as, k⟩ := readsAll_of hf vs _ (by simpa [MVal.fit] using g) h2
    exact ⟨_, .list (hf _ _ h1) rfl rfl k⟩
  | .dct _ _, _, h, _ => by simp [MVal.fit] at h
  | .ref _, _, h, _ => by simp [MVal.fit] at h
  | .bm _ _, _, h, _ => by simp [MVal.fit] at h
  | .inst _ _ _, _, h, _ => by simp [MVal.fit] at h
  | .insr _ _, _, h, _ => by simp [MVal.fit] at h
  | .clo _ _, _, h, _ => by simp [MVal.fit] at h
  | .obj _, _, h, _ => by simp [MVal.fit] at h
  | .rng _ _, _, h, _ => by simp [MVal.fit] at h
  | .gen _, _, h, _ => by simp [MVal.fit] at h
  | .fo _ _, _, h, _ => by simp [MVal.fit] at h
theorem readsAll_of {fz : FH} {ρ : List Addr} {h : Heap} (hf : ∀ a o, fz a = some o → h.get? a = some o) : ∀ (ms : List MVal) (vs : List Value), fits ms = true → VRels fz ρ ms vs → ∃ as, ReadsAll h vs (toDs ms) as
  | [], vs, _, r => by simp only [VRels] at r; subst r; exact ⟨_, .nil⟩
  | x :: xs, vs, g, r => by
    simp only [fits, Bool.and_eq_true] at g
    simp only [VRels] at r
    obtain ⟨v, r', rfl, h1, h2⟩ := r
    obtain ⟨as, k1⟩ := reads_of hf x v g.1 h1
    obtain ⟨bs, k2⟩ := readsAll_of hf xs r' g.2 h2
    exact ⟨_, .cons k1 k2⟩
end
mutual
/-- data without truth values -/
def MVal.noB : MVal → Bool
  | .none => true
  | .int _ => true
  | .str _ => true
  | .tup vs => noBs vs
  | .lst vs => noBs vs
  | _ => false
def noBs : List MVal → Bool
  | [] => true
  | x :: xs => x.noB && noBs xs
end
mutual
theorem eqv_iff : ∀ (a b : MVal), a.noB = true → b.noB = true → (PyData.eqv a.toD b.toD = true ↔ a = b)
  | .none, b, _, hb => by cases b <;> first | (simp [MVal.noB] at hb; done) | simp [MVal.toD, PyData.eqv]
  | .int i, b, _, hb => by cases b <;> first | (simp [MVal.noB] at hb; done) | simp [MVal.toD, PyData.eqv]
  | .str i, b, _, hb => by cases b <;> first | (simp [MVal.noB] at hb; done) | simp [MVal.toD, PyData.eqv]
  | .tup vs, b, ha, hb => by
    cases b <;> first | (simp [MVal.noB] at hb; done) | (simp [MVal.toD, PyData.eqv]; done) | skip
    rename_i ws
    simpa [MVal.toD, PyData.eqv] using eqvs_iff vs ws (by simpa [MVal.noB] using ha) (by simpa [MVal.noB] using hb)
  | .lst vs, b, ha, hb => by
    cases b <;> first | (simp [MVal.noB] at hb; done) | (simp [MVal.toD, PyData.eqv]; done) | skip
    rename_i ws
    simpa [MVal.toD, PyData.eqv] using eqvs_iff vs ws (by simpa [MVal.noB] using ha) (by simpa [MVal.noB] using hb)
  | .bool _, _, h, _ => by simp [MVal.noB] at h
  | .dct _ _, _, h, _ => by simp [MVal.noB] at h
  | .ref _, _, h, _ => by simp [MVal.noB] at h
  | .bm _ _, _, h, _ => by simp [MVal.noB] at h
  | .inst _ _ _, _, h, _ => by simp [MVal.noB] at h
  | .insr _ _, _, h, _ => by simp [MVal.noB] at h
  | .clo _ _, _, h, _ => by simp [MVal.noB] at h
  | .obj _, _, h, _ => by simp [MVal.noB] at h
  | .rng _ _, _, h, _ => by simp [MVal.noB] at h
  | .gen _, _, h, _ => by simp [MVal.noB] at h
  | .fo _ _, _, h, _ => by simp [MVal.noB] at h
theorem eqvs_iff : ∀ (as bs : List MVal), noBs as = true → noBs bs = true → (PyData.eqvAll (toDs as) (toDs bs) = true ↔ as = bs)
  | [], [], _, _ => by simp [toDs, PyData.eqvAll]
  | [], _ :: _, _, _ => by simp [toDs, PyData.eqvAll]
  | _ :: _, [], _, _ => by simp [toDs, PyData.eqvAll]
  | x :: xs, y :: ys, ha, hb => by
    simp only [noBs, Bool.and_eq_true] at ha hb
    simp [toDs, PyData.eqvAll, eqv_iff x y ha.1 hb.1, eqvs_iff xs ys ha.2 hb.2]
end
def dEq (a b : MVal) : Bool := PyData.eqv a.toD b.toD
section
variable {X : SX} {env : Env} {d : Nat} {st st' : St}
theorem CmpE.eqD {a b : MVal} (ha : a.fit = true) (hb : b.fit = true) (hd : a.toD.depth ≤ 100) : CmpE X env d .Eq a b st (dEq a b) st := fun A fz kp kg ρ s va vb ok R ra rb Q E q => by
  obtain ⟨as, r1⟩ := reads_of R.ifz a va ha ra
  obtain ⟨bs, r2⟩ := reads_of R.ifz b vb hb rb
  exact SeqAt.compareEq_reads r1 r2 (canLay_of a ha) (canLay_of b hb) (by have := ok.units; show A.units + _ < 9900; omega) (q _ _ _ _ R (.refl _ _) rfl)
theorem CmpE.neD {a b : MVal} (ha : a.fit = true) (hb : b.fit = true) (hd : a.toD.depth ≤ 100) : CmpE X env d .NotEq a b st (!dEq a b) st := fun A fz kp kg ρ s va vb ok R ra rb Q E q => by
  obtain ⟨as, r1⟩ := reads_of R.ifz a va ha ra
  obtain ⟨bs, r2⟩ := reads_of R.ifz b vb hb rb
  exact SeqAt.compareNe_reads r1 r2 (canLay_of a ha) (canLay_of b hb) (by have := ok.units; show A.units + _ < 9900; omega) (q _ _ _ _ R (.refl _ _) rfl)
theorem dEq_any {a : MVal} : ∀ (xs : List MVal), ((toDs xs).any fun y => PyData.eqv y a.toD) = xs.any fun y => dEq y a
  | [] => rfl
  | x :: xs => by simp only [toDs, List.any_cons, dEq_any xs]; rfl
theorem CmpE.inD {a : MVal} {xs : List MVal} (ha : a.fit = true) (hb : fits xs = true) (hd : a.toD.depth ≤ 100) : CmpE X env d .In a (.lst xs) st (xs.any fun y => dEq y a) st := fun A fz kp kg ρ s va vb ok R ra rb Q E q => by
  obtain ⟨as, r1⟩ := reads_of R.ifz a va ha ra
  obtain ⟨bs, r2⟩ := reads_of R.ifz (.lst xs) vb (by simpa [MVal.fit] using hb) rb
  have r2' : Reads s.heap vb (.list (toDs xs)) bs := by simpa [MVal.toD] using r2
  exact SeqAt.in_list_reads r2' r1 (canLays_of xs hb) (canLay_of a ha) (by have := ok.units; show A.units + 1 + _ < 9900; omega) (q _ _ _ _ R (.refl _ _) (by rw [dEq_any]))
theorem CmpE.notInD {a : MVal} {xs : List MVal} (ha : a.fit = true) (hb : fits xs = true) (hd : a.toD.depth ≤ 100) : CmpE X env d .NotIn a (.lst xs) st (!xs.any fun y => dEq y a) st := fun A fz kp kg ρ s va vb ok R ra rb Q E q => by
  obtain ⟨as, r1⟩ := reads_of R.ifz a va ha ra
  obtain ⟨bs, r2⟩ := reads_of R.ifz (.lst xs) vb (by simpa [MVal.fit] using hb) rb
  have r2' : Reads s.heap vb (.list (toDs xs)) bs := by simpa [MVal.toD] using r2
  exact SeqAt.notIn_list_reads r2' r1 (canLays_of xs hb) (canLay_of a ha) (by have := ok.units; show A.units + 1 + _ < 9900; omega) (q _ _ _ _ R (.refl _ _) (by rw [dEq_any]))
end
end Mine
end
section
open PySem PySem.W PySem.Calls PyProof.Rows
set_option linter.all false
set_option maxRecDepth 100000
namespace Mine
abbrev lc0 : PySem.Expr := asVal (sub t_law 0)
def drw (xs : List Int) (k : Nat) : Int := (if k < xs.length then xs.getD k 0 else drestL.getD k 0).fmod mD
theorem drw_lt (xs : List Int) (k : Nat) : 0 ≤ drw xs k ∧ drw xs k < mD := by
  unfold drw
  exact ⟨Int.fmod_nonneg_of_pos _ (by decide), Int.fmod_lt_of_pos _ (by decide)⟩
section
variable {X : SX} {env : Env} {d : Nat} {st st' : St}
theorem EvE.conv {e : PySem.Expr} {a b : MVal} (h : EvE X env d e st a st') (hc : ∀ {fz kp : FH} {kg : Nat → Option GenState} {ρ : List Addr} {led : List MObj} {s : Shared} {v : Value}, LRel X fz kp kg ρ led s → VRel fz ρ a v → VRel fz ρ b v) : EvE X env d e st b st' :=
  fun A fz kp kg ρ s ok R Q E q => h A fz kp kg ρ s ok R Q E fun fz' ρ' v s' R' g r => q fz' ρ' v s' R' g (hc R'.toLRel r)
/-- a tuple of the heap's own, read as what it holds -/
theorem stat_tup (XO : SXOk X) {p : Addr} {arr : Array Value} {vs : List MVal} (hk : X.K.lookup p = some (tupO arr 0)) (hv : ∀ fz ρ, VRels fz ρ vs arr.toList)
    {fz kp : FH} {kg : Nat → Option GenState} {ρ : List Addr} {led : List MObj} {s : Shared} {v : Value} (R : LRel X fz kp kg ρ led s) (h : VRel fz ρ (.obj (.ref p)) v) : VRel fz ρ (.tup vs) v := by
  simp only [VRel] at h ⊢
  exact ⟨p, arr, h, R.hb _ _ (XO.kin _ _ hk), hv _ _⟩
def intOf : Value → Option Int
  | .int i _ => some i
  | _ => none
theorem ints_stat {fz : FH} {ρ : List Addr} : ∀ {l : List Int} {us : List Value}, us.map intOf = l.map some → VRels fz ρ (l.map MVal.int) us
  | [], [], _ => by simp [VRels]
  | [], _ :: _, h => by simp at h
  | _ :: _, [], h => by simp at h
  | x :: l, u :: us, h => by
    simp only [List.map_cons, List.cons.injEq] at h
    simp only [List.map_cons, VRels, VRel]
    refine ⟨u, us, rfl, ?_, ints_stat h.2⟩
    cases u <;> simp [intOf] at h
    rename_i i t
    exact ⟨t, by rw [h.1]⟩
end
section
variable {prog : Program} {w : World} {hb : Heap} {mg mb : Str → Option Value} {os : OsState} {d : Nat} {led : List MObj}
abbrev restN : PySem.Expr := match lcElt lc0 with
  | .BinOp (.IfExp _ _ (.Subscript e _ _) _) _ _ _ => e
  | _ => default
abbrev stD (k : Int) (scr : List MVal) : St := ⟨[("k", .int k)], [("script", 0)], CL0 scr⟩
theorem restE (XO : SXOk (X0 prog w hb mg mb os)) {scr : List MVal} {k : Int} {env : Env} (I : Is env ((cxF fd_law).comp (lcSc lc0))) : EvE (X0 prog w hb mg mb os) env d restN (stD k scr) (.tup (drestL.map MVal.int)) (stD k scr) :=
  (EvE.run (v := .obj (.ref a_law_rest)) XO (gtok XO) 5 [] [] (by kernel_rfl) trivial I).conv fun R h => stat_tup XO (p := a_law_rest) (arr := rest_arr) (by kernel_rfl) (fun fz ρ => ints_stat (by kernel_rfl)) R h
theorem drawC (XO : SXOk (X0 prog w hb mg mb os)) (xs : List Int) (hx : xs.length ≤ 1000) {env : Env} (I : Is env ((cxF fd_law).comp (lcSc lc0))) :
    ∃ st₂, CompE (X0 prog w hb mg mb os) env d (lcTgt lc0) (lcIfs lc0) (lcElt lc0) (intsL 0 nD) ⟨[], [("script", 0)], CL0 (xs.map MVal.int)⟩ ((List.range nD).map fun k => .int (drw xs k)) st₂ ∧ st₂.led = CL0 (xs.map MVal.int) := by
  rw [intsL_map]
  have h := CompE.each (X := X0 prog w hb mg mb os) (env := env) (d := d) (target := lcTgt lc0) (elt := lcElt lc0) (ifs := lcIfs lc0) (fun (k : Nat) => MVal.int (0 + (k : Int))) (fun k => [MVal.int (drw xs k)]) ⟨[], [("script", 0)], CL0 (xs.map MVal.int)⟩ (List.range nD) fun k hk => by
    have hkn : k < nD := by simpa using hk
    have hkr : k < drestL.length := hkn
    have hks : k < 1000 := Nat.lt_trans hkr (by decide)
    by_cases hl : k < xs.length
    · have e : drw xs k = (xs.getD k 0).fmod mD := by simp only [drw]; rw [if_pos hl]
      rw [e]
      refine ⟨_, CompE.run (st' := stD (0 + (k : Int)) (xs.map MVal.int)) XO (gtok XO) 20 [.b true, .i k (.int (xs.getD k 0))]
        [mD ≠ 0, 0 + (k : Int) < 2 ^ 63, -(2 ^ 63) ≤ 0 + (k : Int), (xs.map MVal.int)[k]? = some (.int (xs.getD k 0)), seqIndex? (0 + (k : Int)) (xs.map MVal.int).length = some k, decide (0 + (k : Int) < ((xs.map MVal.int).length : Int)) = true, (xs.map MVal.int).length ≤ 10000000]
        (by kernel_rfl) ⟨by decide, by omega, by omega, ?_, ?_, ?_, by simp; omega, trivial⟩ I, .of rfl rfl trivial⟩
      · simp [List.getD_eq_getElem?_getD, hl]
      · rw [Int.zero_add]; exact seqIdx_nat (by simpa using hl)
      · simp; omega
    · have e : drw xs k = (drestL.getD k 0).fmod mD := by simp only [drw]; rw [if_neg hl]
      rw [e]
      refine ⟨_, CompE.run (st' := stD (0 + (k : Int)) (xs.map MVal.int)) XO (gtok XO) 20 [.b false, .e restN.pos (.tup (drestL.map MVal.int)) (stD (0 + (k : Int)) (xs.map MVal.int)), .i k (.int (drestL.getD k 0))]
        [mD ≠ 0, 0 + (k : Int) < 2 ^ 63, -(2 ^ 63) ≤ 0 + (k : Int), (drestL.map MVal.int)[k]? = some (.int (drestL.getD k 0)), seqIndex? (0 + (k : Int)) (drestL.map MVal.int).length = some k, ∀ (env : Env), Is env ((cxF fd_law).comp (lcSc lc0)) → EvE (X0 prog w hb mg mb os) env d restN (stD (0 + (k : Int)) (xs.map MVal.int)) (.tup (drestL.map MVal.int)) (stD (0 + (k : Int)) (xs.map MVal.int)), decide (0 + (k : Int) < ((xs.map MVal.int).length : Int)) = false, (xs.map MVal.int).length ≤ 10000000]
        (by kernel_rfl) ⟨by decide, by omega, by omega, ?_, ?_, fun env I => restE XO I, ?_, by simp; omega, trivial⟩ I, .of rfl rfl trivial⟩
      · rw [List.getElem?_map, List.getD_eq_getElem?_getD, List.getElem?_eq_getElem hkr]; rfl
      · rw [Int.zero_add]; exact seqIdx_nat (by simpa using hkr)
      · simp; omega
  rw [fm1] at h
  exact h
end
end Mine
end
section
open PySem PySem.W PySem.Calls PyProof.Rows
set_option linter.all false
set_option maxRecDepth 100000
namespace Mine
abbrev tmArr : List (Str × Tm) := [("state", .arg 0), ("scan_once", .arg 1), ("array_hook", .arg 2), ("_w", .val df_JSONArray_1), ("_ws", .val df_JSONArray_2)]
-- the state at the head of the loop
abbrev locA (s : Str) (i e : Nat) : List (Str × MVal) := [("state", .tup [.str s, .int i]), ("scan_once", .clo FSO csSO), ("array_hook", hookL), ("_w", .obj df_JSONArray_1), ("_ws", .str " \t\n\x0d"), ("s", .str s), ("end", .int e), ("values", .ref 15), ("_append", .bm "list.append" (.ref 15))]
abbrev stA (s : Str) (i e : Nat) (vs : List MVal) : St := ⟨locA s i e, [], LD DL ++ [.lst vs]⟩
abbrev bodyA : List Stmt := fbody (sub t_JSONArray 6)
abbrev testA : PySem.Expr := ftest (sub t_JSONArray 6)
local macro_rules | `(tactic| walk_at "sub") => `(tactic| repeat' (first | exact trivial | refine And.intro (by kernel_rfl) ?_))
section
variable {prog : Program} {w : World} {hb : Heap} {mg mb : Str → Option Value} {os : OsState} {d : Nat} {led : List MObj}
/-- what it is to read a value of a text at a place -/
abbrev Scn (prog : Program) (w : World) (hb : Heap) (mg mb : Str → Option Value) (os : OsState) (d : Nat) (s : Str) (i : Nat) (v : MVal) (j : Nat) : Prop :=
  CallsTo (X0 prog w hb mg mb os) d (.clo FSO csSO) [.str s, .int i] [] (LD DL) (.tup [v, .int j]) (LD DL)
abbrev Hk (prog : Program) (w : World) (hb : Heap) (mg mb : Str → Option Value) (os : OsState) (d : Nat) (vs : List MVal) (v : MVal) : Prop :=
  CallsTo (X0 prog w hb mg mb os) d hookL [.lst vs] [] (LD DL) v (LD DL)
theorem arr0 (XO : SXOk (X0 prog w hb mg mb os)) {s : Str} {i : Nat} {r : MVal} (hz : s.length ≤ 10000000) (h1 : s.cps[i]? = some 93) (hk : Hk prog w hb mg mb os d [] r) :
    CallsTo (X0 prog w hb mg mb os) (d + 1) (.obj (.ref a_JSONArray)) [.tup [.str s, .int i], .clo FSO csSO, hookL] [] (LD DL) (.tup [r, .int ((i + 1 : Nat) : Int)]) (LD DL) :=
  CallsTo.run2 XO (gtok XO) 300 [.i i (.int 93), .z, .v r (LD DL)] tmArr (.ret (.tup [r, .int ((i + 1 : Nat) : Int)]))
    [Hk prog w hb mg mb os d [] r, true = true, true = true, true = true, true = true, s.cps[i]? = some 93, some ((i : Int) + 1) = some ((i : Int) + 1), some (i : Int) = some (i : Int), s.length ≤ 10000000]
    ok_JSONArray (by intro a b c S; kernel_rfl) (by kernel_rfl) (by kernel_rfl) ⟨hk, rfl, rfl, rfl, rfl, h1, rfl, rfl, hz, trivial⟩ rfl
theorem arrN (XO : SXOk (X0 prog w hb mg mb os)) {s : Str} {i j : Nat} {r : MVal} {vs : List MVal} (hz : s.length ≤ 10000000) (h1 : s.cps[i]? = some 91) (hb' : belows 15 vs = true) (hk : Hk prog w hb mg mb os d vs r)
    (hw : ∀ env, Is env (cxF fd_JSONArray) → ∃ st2, WhileE (X0 prog w hb mg mb os) env d testA bodyA (stA s i i []) .next st2 ∧ Sub (stA s i j vs) st2) :
    CallsTo (X0 prog w hb mg mb os) (d + 1) (.obj (.ref a_JSONArray)) [.tup [.str s, .int i], .clo FSO csSO, hookL] [] (LD DL) (.tup [r, .int j]) (LD DL) :=
  CallsTo.run2 XO (gtok XO) 300 [.i i (.int 91), .a, .a, .a, .c ⟨(locA s i i).take 8, [], LD DL ++ [.lst []]⟩, .f .next (stA s i j vs), .z, .v r (LD DL)] tmArr (.ret (.tup [r, .int j]))
    [Hk prog w hb mg mb os d vs r, true = true, (belows 15 vs && (belows 15 vs && true)) = true, true = true, belows 15 vs = true, ∀ env, Is env (cxF fd_JSONArray) → ∃ st2, WhileE (X0 prog w hb mg mb os) env d testA bodyA (stA s i i []) .next st2 ∧ Sub (stA s i j vs) st2,
      Sub ⟨(locA s i i).take 8, [], LD DL ++ [.lst []]⟩ ⟨(locA s i i).take 8 ++ [(("nextchar" : Str), MVal.str ⟨#[91]⟩)], [], LD DL ++ [.lst []]⟩, s.cps[i]? = some 91, some ((i : Int) + 1) = some ((i : Int) + 1), some (i : Int) = some (i : Int), s.length ≤ 10000000]
    ok_JSONArray (by intro a b c S; kernel_rfl) (by kernel_rfl) (by kernel_rfl) ⟨hk, rfl, by simp [hb'], rfl, hb', hw, .of rfl rfl (by walk_at "sub"), h1, rfl, rfl, hz, trivial⟩ rfl

theorem Scn.ext {d : Nat} {s : Str} {i j : Nat} {v : MVal} (h : Scn prog w hb mg mb os d s i v j) (ext : List MObj) : CallsTo (X0 prog w hb mg mb os) d (.clo FSO csSO) [.str s, .int i] [] (LD DL ++ ext) (.tup [v, .int j]) (LD DL ++ ext) :=
  CallsTo.frame h rfl ext (by kernel_rfl) rfl rfl (by kernel_rfl)
/-- a turn that goes on, the last turn -/
theorem turnA (XO : SXOk (X0 prog w hb mg mb os)) {env : Env} (I : Is env (cxF fd_JSONArray)) {s : Str} {i k j : Nat} {v : MVal} {done : List MVal} (hz : s.length ≤ 10000000) (hd : done.length ≤ 10000000) (h : Scn prog w hb mg mb os d s k v j) (h1 : s.cps[j]? = some 44) (h2 : s.cps[j + 1]? = some 32) (h3 : s.cps[j + 2]? = some 91) :
    ExL (X0 prog w hb mg mb os) env d bodyA (stA s i k done) .next (stA s i (j + 2) (done ++ [v])) := by
  obtain ⟨l1, _⟩ := Array.getElem?_eq_some_iff.mp h1
  obtain ⟨l2, _⟩ := Array.getElem?_eq_some_iff.mp h2
  obtain ⟨l3, _⟩ := Array.getElem?_eq_some_iff.mp h3
  have l3' : j + 2 < s.length := l3
  have q2 : seqIndex? ((j : Int) + 1) s.length = some (j + 1) := seqIdx_nat (i := j + 1) l2
  have q3 : seqIndex? ((j : Int) + 1 + 1) s.length = some (j + 2) := seqIdx_nat (i := j + 2) l3
  exact ExL.run XO (gtok XO) 300 [.v (.tup [v, .int j]) (LD DL ++ [.lst done]), .i j (.int 44), .i (j+1) (.int 32), .i (j+2) (.int 91), .i (j+2) (.int 91), .c (stA s i (j+2) (done ++ [v]))]
    [Sub (stA s i (j+2) (done ++ [v])) ⟨locA s i (j+2) ++ [(("value" : Str), v), (("nextchar" : Str), MVal.str ⟨#[44]⟩), (("comma_idx" : Str), MVal.int ((j : Int) + 1 - 1))], [], LD DL ++ [.lst (done ++ [v])]⟩,
      s.cps[j + 2]? = some 91, some ((j : Int) + 1 + 1 + 1) = some ((j : Int) + 2 + 1), some ((j : Int) + 1 + 1) = some ((j : Int) + 2), s.length ≤ 10000000, (j : Int) + 1 + 1 < 2 ^ 63, -(2 ^ 63) ≤ (j : Int) + 1 + 1, s.cps[j + 2]? = some 91, seqIndex? ((j : Int) + 1 + 1) s.length = some (j + 2),
      (j : Int) + 1 < 2 ^ 63, -(2 ^ 63) ≤ (j : Int) + 1, s.cps[j + 1]? = some 32, seqIndex? ((j : Int) + 1) s.length = some (j + 1), s.cps[j]? = some 44, some ((j : Int) + 1) = some ((j : Int) + 1), some (j : Int) = some (j : Int), s.length ≤ 10000000, done.length ≤ 10000000,
      CallsTo (X0 prog w hb mg mb os) d (.clo FSO csSO) [.str s, .int k] [] (LD DL ++ [.lst done]) (.tup [v, .int j]) (LD DL ++ [.lst done])]
    (by kernel_rfl) ⟨.of rfl rfl (by walk_at "sub"), h3, rfl, rfl, hz, by omega, by omega, h3, q3, by omega, by omega, h2, q2, h1, rfl, rfl, hz, hd, h.ext _, trivial⟩ I
theorem lastA (XO : SXOk (X0 prog w hb mg mb os)) {env : Env} (I : Is env (cxF fd_JSONArray)) {s : Str} {i k j : Nat} {v : MVal} {done : List MVal} (hz : s.length ≤ 10000000) (hd : done.length ≤ 10000000) (h : Scn prog w hb mg mb os d s k v j) (h1 : s.cps[j]? = some 93) :
    ExL (X0 prog w hb mg mb os) env d bodyA (stA s i k done) .brk ⟨locA s i (j + 1) ++ [(("value" : Str), v), (("nextchar" : Str), MVal.str ⟨#[93]⟩)], [], LD DL ++ [.lst (done ++ [v])]⟩ :=
  ExL.run XO (gtok XO) 300 [.v (.tup [v, .int j]) (LD DL ++ [.lst done]), .i j (.int 93)]
    [s.cps[j]? = some 93, some ((j : Int) + 1) = some ((j : Int) + 1), some (j : Int) = some (j : Int), s.length ≤ 10000000, done.length ≤ 10000000, CallsTo (X0 prog w hb mg mb os) d (.clo FSO csSO) [.str s, .int k] [] (LD DL ++ [.lst done]) (.tup [v, .int j]) (LD DL ++ [.lst done])]
    (by kernel_rfl) ⟨h1, rfl, rfl, hz, hd, h.ext _, trivial⟩ I
theorem testA_ok (XO : SXOk (X0 prog w hb mg mb os)) {env : Env} {st : St} : TsE (X0 prog w hb mg mb os) env d testA st true st := TsE.val EvE.cbool .bool
/-- the parts of an array, read one after the other -/
inductive Parts (P : Nat → MVal → Nat → Prop) (s : Str) : Nat → List MVal → Nat → Prop
  | last {k j : Nat} {v : MVal} : P k v j → s.cps[j]? = some 93 → Parts P s k [v] (j + 1)
  | next {k j e : Nat} {v : MVal} {vs : List MVal} : P k v j → s.cps[j]? = some 44 → s.cps[j + 1]? = some 32 → s.cps[j + 2]? = some 91 → Parts P s (j + 2) vs e → Parts P s k (v :: vs) e
theorem loopA (XO : SXOk (X0 prog w hb mg mb os)) {env : Env} (I : Is env (cxF fd_JSONArray)) {s : Str} {i : Nat} (hz : s.length ≤ 10000000) {k e : Nat} {vs : List MVal} (h : Parts (Scn prog w hb mg mb os d s) s k vs e) : ∀ (done : List MVal), done.length + vs.length ≤ 1000000 →
    ∃ st2, WhileE (X0 prog w hb mg mb os) env d testA bodyA (stA s i k done) .next st2 ∧ Sub (stA s i e (done ++ vs)) st2 := by
  induction h with
  | last h1 h2 =>
    intro done hd
    exact ⟨_, .brk (testA_ok XO) (lastA XO I hz (by omega) h1 h2), .of rfl rfl (by walk_at "sub")⟩
  | next h1 h2 h3 h4 h5 ih =>
    rename_i k j e v vs
    intro done hd
    obtain ⟨st2, w1, w2⟩ := ih (done ++ [v]) (by simp at hd ⊢; omega)
    refine ⟨st2, .next (testA_ok XO) (turnA XO I hz (by omega) h1 h2 h3 h4) (.inl rfl) w1, ?_⟩
    simpa using w2
/-- an array is read -/
theorem scnArr (XO : SXOk (X0 prog w hb mg mb os)) {s : Str} {i j : Nat} {v : MVal} (hz : s.length ≤ 10000000) (h1 : s.cps[i]? = some 91) (h : CallsTo (X0 prog w hb mg mb os) d (.obj (.ref a_JSONArray)) [.tup [.str s, .int ((i + 1 : Nat) : Int)], .clo FSO csSO, hookL] [] (LD DL) (.tup [v, .int j]) (LD DL)) :
    Scn prog w hb mg mb os (d + 1) s i v j := by
  obtain ⟨l1, _⟩ := Array.getElem?_eq_some_iff.mp h1
  have q1 : seqIndex? (i : Int) s.length = some i := seqIdx_nat l1
  have l1' : i < s.length := l1
  exact CallsTo.runC2 XO (gtok XO) 300 [.i i (.int 91), .v (.tup [v, .int j]) (LD DL)] [("string", .arg 0), ("idx", .arg 1)] (.ret (.tup [v, .int j]))
    [CallsTo (X0 prog w hb mg mb os) d (.obj (.ref a_JSONArray)) [.tup [.str s, .int ((i + 1 : Nat) : Int)], .clo FSO csSO, hookL] [] (LD DL) (.tup [v, .int j]) (LD DL), (i : Int) < 2 ^ 63, -(2 ^ 63) ≤ (i : Int), s.cps[i]? = some 91, seqIndex? (i : Int) s.length = some i]
    (by intro _ _ _ _ _ v1 v2; show bindArgs _ _ = _; kernel_rfl) (by kernel_rfl) (by kernel_rfl) ⟨h, by omega, by omega, h1, q1, trivial⟩ rfl
end
end Mine
end
section
open PySem PySem.W PySem.Calls PyProof.Rows
set_option linter.all false
set_option maxRecDepth 100000
namespace Mine
local macro_rules | `(tactic| walk_at "sub") => `(tactic| repeat' (first | exact trivial | refine And.intro (by kernel_rfl) ?_))
/-- signs with which a value begins -/
abbrev okC : List Nat := [91, 48, 49, 50, 51, 52, 53, 54, 55, 56, 57, 45, 34, 123, 110, 116, 102]
section
variable {prog : Program} {w : World} {hb : Heap} {mg mb : Str → Option Value} {os : OsState} {d : Nat} {led : List MObj}
/-- a turn that goes on, the last turn -/
theorem turnG (XO : SXOk (X0 prog w hb mg mb os)) {env : Env} (I : Is env (cxF fd_JSONArray)) {s : Str} {i k j : Nat} {v : MVal} {done : List MVal} {c : Nat} (hc : c ∈ okC) (hz : s.length ≤ 10000000) (hd : done.length ≤ 10000000) (h : Scn prog w hb mg mb os d s k v j) (h1 : s.cps[j]? = some 44) (h2 : s.cps[j + 1]? = some 32) (h3 : s.cps[j + 2]? = some c) :
    ExL (X0 prog w hb mg mb os) env d bodyA (stA s i k done) .next (stA s i (j + 2) (done ++ [v])) := by
  obtain ⟨l1, _⟩ := Array.getElem?_eq_some_iff.mp h1
  obtain ⟨l2, _⟩ := Array.getElem?_eq_some_iff.mp h2
  obtain ⟨l3, _⟩ := Array.getElem?_eq_some_iff.mp h3
  have l3' : j + 2 < s.length := l3
  have q2 : seqIndex? ((j : Int) + 1) s.length = some (j + 1) := seqIdx_nat (i := j + 1) l2
  have q3 : seqIndex? ((j : Int) + 1 + 1) s.length = some (j + 2) := seqIdx_nat (i := j + 2) l3
  refine ExL.run XO (gtok XO) 300 [.v (.tup [v, .int j]) (LD DL ++ [.lst done]), .i j (.int 44), .i (j+1) (.int 32), .i (j+2) (.int c), .i (j+2) (.int c), .c (stA s i (j+2) (done ++ [v]))]
      [Sub (stA s i (j+2) (done ++ [v])) ⟨locA s i (j+2) ++ [(("value" : Str), v), (("nextchar" : Str), MVal.str ⟨#[44]⟩), (("comma_idx" : Str), MVal.int ((j : Int) + 1 - 1))], [], LD DL ++ [.lst (done ++ [v])]⟩,
        s.cps[j + 2]? = some c, some ((j : Int) + 1 + 1 + 1) = some ((j : Int) + 2 + 1), some ((j : Int) + 1 + 1) = some ((j : Int) + 2), s.length ≤ 10000000, (j : Int) + 1 + 1 < 2 ^ 63, -(2 ^ 63) ≤ (j : Int) + 1 + 1, s.cps[j + 2]? = some c, seqIndex? ((j : Int) + 1 + 1) s.length = some (j + 2),
        (j : Int) + 1 < 2 ^ 63, -(2 ^ 63) ≤ (j : Int) + 1, s.cps[j + 1]? = some 32, seqIndex? ((j : Int) + 1) s.length = some (j + 1), s.cps[j]? = some 44, some ((j : Int) + 1) = some ((j : Int) + 1), some (j : Int) = some (j : Int), s.length ≤ 10000000, done.length ≤ 10000000,
        CallsTo (X0 prog w hb mg mb os) d (.clo FSO csSO) [.str s, .int k] [] (LD DL ++ [.lst done]) (.tup [v, .int j]) (LD DL ++ [.lst done])]
      ?run ⟨.of rfl rfl (by walk_at "sub"), h3, rfl, rfl, hz, by omega, by omega, h3, q3, by omega, by omega, h2, q2, h1, rfl, rfl, hz, hd, h.ext _, trivial⟩ I
  case run =>
    simp only [okC, List.mem_cons, List.not_mem_nil, or_false] at hc
    rcases hc with rfl | rfl | rfl | rfl | rfl | rfl | rfl | rfl | rfl | rfl | rfl | rfl | rfl | rfl | rfl | rfl | rfl
    all_goals kernel_rfl
end
end Mine
end
section
open PySem PySem.W PySem.Calls PyProof.Rows
set_option linter.all false
set_option maxRecDepth 100000
namespace Mine
local macro_rules | `(tactic| walk_at "sub") => `(tactic| repeat' (first | exact trivial | refine And.intro (by kernel_rfl) ?_))
section
variable {prog : Program} {w : World} {hb : Heap} {mg mb : Str → Option Value} {os : OsState} {d : Nat} {led : List MObj}
theorem arrG (XO : SXOk (X0 prog w hb mg mb os)) {s : Str} {i j : Nat} {r : MVal} {vs : List MVal} {c : Nat} (hc : c ∈ okC) (hz : s.length ≤ 10000000) (h1 : s.cps[i]? = some c) (hb' : belows 15 vs = true) (hk : Hk prog w hb mg mb os d vs r)
    (hw : ∀ env, Is env (cxF fd_JSONArray) → ∃ st2, WhileE (X0 prog w hb mg mb os) env d testA bodyA (stA s i i []) .next st2 ∧ Sub (stA s i j vs) st2) :
    CallsTo (X0 prog w hb mg mb os) (d + 1) (.obj (.ref a_JSONArray)) [.tup [.str s, .int i], .clo FSO csSO, hookL] [] (LD DL) (.tup [r, .int j]) (LD DL) := by
  refine CallsTo.run2 XO (gtok XO) 300 [.i i (.int c), .a, .a, .a, .c ⟨(locA s i i).take 8, [], LD DL ++ [.lst []]⟩, .f .next (stA s i j vs), .z, .v r (LD DL)] tmArr (.ret (.tup [r, .int j]))
    [Hk prog w hb mg mb os d vs r, true = true, (belows 15 vs && (belows 15 vs && true)) = true, true = true, belows 15 vs = true, ∀ env, Is env (cxF fd_JSONArray) → ∃ st2, WhileE (X0 prog w hb mg mb os) env d testA bodyA (stA s i i []) .next st2 ∧ Sub (stA s i j vs) st2,
      Sub ⟨(locA s i i).take 8, [], LD DL ++ [.lst []]⟩ ⟨(locA s i i).take 8 ++ [(("nextchar" : Str), MVal.str ⟨#[c]⟩)], [], LD DL ++ [.lst []]⟩, s.cps[i]? = some c, some ((i : Int) + 1) = some ((i : Int) + 1), some (i : Int) = some (i : Int), s.length ≤ 10000000]
    ok_JSONArray (by intro a b c S; kernel_rfl) (by kernel_rfl) ?run ⟨hk, rfl, by simp [hb'], rfl, hb', hw, .of rfl rfl (by walk_at "sub"), h1, rfl, rfl, hz, trivial⟩ rfl
  case run =>
    simp only [okC, List.mem_cons, List.not_mem_nil, or_false] at hc
    rcases hc with rfl | rfl | rfl | rfl | rfl | rfl | rfl | rfl | rfl | rfl | rfl | rfl | rfl | rfl | rfl | rfl | rfl
    all_goals kernel_rfl
/-- the parts of an array, read one after the other -/
inductive PartsG (P : Nat → MVal → Nat → Prop) (s : Str) : Nat → List MVal → Nat → Prop
  | last {k j : Nat} {v : MVal} : P k v j → s.cps[j]? = some 93 → PartsG P s k [v] (j + 1)
  | next {k j e : Nat} {v : MVal} {vs : List MVal} {c : Nat} : P k v j → s.cps[j]? = some 44 → s.cps[j + 1]? = some 32 → c ∈ okC → s.cps[j + 2]? = some c → PartsG P s (j + 2) vs e → PartsG P s k (v :: vs) e
theorem loopG2 (XO : SXOk (X0 prog w hb mg mb os)) {env : Env} (I : Is env (cxF fd_JSONArray)) {s : Str} {i : Nat} (hz : s.length ≤ 10000000) {k e : Nat} {vs : List MVal} (h : PartsG (Scn prog w hb mg mb os d s) s k vs e) : ∀ (done : List MVal), done.length + vs.length ≤ 1000000 →
    ∃ st2, WhileE (X0 prog w hb mg mb os) env d testA bodyA (stA s i k done) .next st2 ∧ Sub (stA s i e (done ++ vs)) st2 := by
  induction h with
  | last h1 h2 =>
    intro done hd
    exact ⟨_, .brk (testA_ok XO) (lastA XO I hz (by omega) h1 h2), .of rfl rfl (by walk_at "sub")⟩
  | next h1 h2 h3 hc h4 h5 ih =>
    rename_i k j e v vs c
    intro done hd
    obtain ⟨st2, w1, w2⟩ := ih (done ++ [v]) (by simp at hd ⊢; omega)
    refine ⟨st2, .next (testA_ok XO) (turnG XO I hc hz (by omega) h1 h2 h3 h4) (.inl rfl) w1, ?_⟩
    simpa using w2
end
end Mine
end
section
open PySem PySem.W PySem.Calls PyProof.Rows
set_option linter.all false
set_option maxRecDepth 100000
namespace Mine
section
variable {prog : Program} {w : World} {hb : Heap} {mg mb : Str → Option Value} {os : OsState} {d : Nat} {led : List MObj}
theorem patWs : PatK (X0 prog w hb mg mb os) a_WHITESPACE wsCode 0 := .of (by kernel_rfl)
theorem scanOnce (XO : SXOk (X0 prog w hb mg mb os)) {s : Str} {i j : Nat} {v : MVal} (h : Scn prog w hb mg mb os d s i v j) :
    CallsTo (X0 prog w hb mg mb os) (d + 1) (.clo FSN csSN) [.str s] [("idx", .int i)] (LD DL) (.tup [v, .int j]) (LD DL) :=
  CallsTo.runC2 XO (gtok XO) 300 [.v (.tup [v, .int j]) (LD DL)] [("string", .arg 0), ("idx", .kw 0)] (.ret (.tup [v, .int j]))
    [([] : List (Str × MVal)).length ≤ 10000000, CallsTo (X0 prog w hb mg mb os) d (.clo FSO csSO) [.str s, .int i] [] (LD DL) (.tup [v, .int j]) (LD DL)]
    (by intro _ _ _ _ _ v1 v2; show bindArgs _ _ = _; kernel_rfl) (by kernel_rfl) (by kernel_rfl) ⟨by simp, h, trivial⟩ rfl
abbrev tmRaw : List (Str × Tm) := [("self", .arg 0), ("s", .arg 1), ("idx", .val df_JSONDecoder_raw_from_text_0), ("_w", .val df_JSONDecoder_raw_from_text_1)]
abbrev stRaw (s : Str) : St := ⟨[("self", .insr a_JSONDecoder 0), ("s", .str s), ("idx", .int 0), ("_w", .obj df_JSONDecoder_raw_from_text_1), ("ord0", .int 91)], [], LD DL⟩
abbrev wsE : PySem.Expr := match ftest (sub t_JSONDecoder_raw_from_text 2) with
  | .Call _ _ (⟨_, e, _⟩ :: _) _ => e
  | e => e
abbrev tmFrom : List (Str × Tm) := [("self", .arg 0), ("s", .arg 1), ("_w", .val df_JSONDecoder_from_text_0)]
abbrev stFrom (s : Str) (j : Nat) (v : MVal) : St := ⟨[("self", .insr a_JSONDecoder 0), ("s", .str s), ("_w", .obj df_JSONDecoder_from_text_0), ("obj", v), ("end", .int j)], [], LD DL⟩
abbrev wsF : PySem.Expr := ftest (sub t_JSONDecoder_from_text 1)
theorem wsNone (XO : SXOk (X0 prog w hb mg mb os)) {env : Env} (I : Is env (cxF fd_JSONDecoder_raw_from_text)) {s : Str} (hz : s.length ≤ 10000000) (h : s.cps[0]? = some 91) : EvE (X0 prog w hb mg mb os) env d wsE (stRaw s) (.int 0) (stRaw s) := by
  obtain ⟨l, e⟩ := Array.getElem?_eq_some_iff.mp h
  have l' : 0 < s.length := l
  refine EvE.wsEnd (f := .obj df_JSONDecoder_raw_from_text_1) XO patWs (.inl ⟨dfa_JSONDecoder_raw_from_text_1, rfl, by kernel_rfl⟩) (by kernel_rfl) ?_ ?_ ?_ (by omega) (by omega) hz (.inr ?_) (by kernel_rfl) (by kernel_rfl) (by kernel_rfl) (by kernel_rfl) (by kernel_rfl)
  · exact EvE.run XO (gtok XO) 5 [] [] (by kernel_rfl) trivial I
  · exact EvE.run XO (gtok XO) 5 [] [] (by kernel_rfl) trivial I
  · exact EvE.run XO (gtok XO) 5 [] [] (by kernel_rfl) trivial I
  · have : s.cps.getD (0 : Int).toNat 0 = 91 := by rw [Array.getD_eq_getD_getElem?]; simp [h]
    rw [this]; rfl
theorem wsLast (XO : SXOk (X0 prog w hb mg mb os)) {env : Env} (I : Is env (cxF fd_JSONDecoder_from_text)) {s : Str} {v : MVal} (hz : s.length ≤ 10000000) : EvE (X0 prog w hb mg mb os) env d wsF (stFrom s s.length v) (.int s.length) (stFrom s s.length v) := by
  refine EvE.wsEnd (f := .obj df_JSONDecoder_from_text_0) XO patWs (.inl ⟨dfa_JSONDecoder_from_text_0, rfl, by kernel_rfl⟩) (by kernel_rfl) ?_ ?_ ?_ (by omega) (by omega) hz (.inl rfl) (by kernel_rfl) (by kernel_rfl) (by kernel_rfl) (by kernel_rfl) (by kernel_rfl)
  · exact EvE.run XO (gtok XO) 5 [] [] (by kernel_rfl) trivial I
  · exact EvE.run XO (gtok XO) 5 [] [] (by kernel_rfl) trivial I
  · exact EvE.run XO (gtok XO) 5 [] [] (by kernel_rfl) trivial I
theorem rawFrom (XO : SXOk (X0 prog w hb mg mb os)) {s : Str} {j : Nat} {v : MVal} (hz : s.length ≤ 10000000) (h0 : s.cps[0]? = some 91) (h : Scn prog w hb mg mb os d s 0 v j) :
    CallsTo (X0 prog w hb mg mb os) (d + 2) (.obj (.ref a_JSONDecoder_raw_from_text)) [.insr a_JSONDecoder 0, .str s] [] (LD DL) (.tup [v, .int j]) (LD DL) := by
  obtain ⟨l, e⟩ := Array.getElem?_eq_some_iff.mp h0
  have l' : 0 < s.length := l
  exact CallsTo.run2 XO (gtok XO) 300 [.a, .b true, .i 0 (.int 91), .e wsE.pos (.int 0) (stRaw s), .v (.tup [v, .int j]) (LD DL)] tmRaw (.ret (.tup [v, .int j]))
    [CallsTo (X0 prog w hb mg mb os) (d + 1) (.clo FSN csSN) [.str s] [("idx", .int ((0 : Nat) : Int))] (LD DL) (.tup [v, .int j]) (LD DL), ∀ env, Is env (cxF fd_JSONDecoder_raw_from_text) → EvE (X0 prog w hb mg mb os) env (d + 1) wsE (stRaw s) (.int 0) (stRaw s), hdd (.clo FSN csSN),
      (0 : Int) < 2 ^ 63, -(2 ^ 63) ≤ (0 : Int), s.cps[0]? = some 91, seqIndex? (0 : Int) s.length = some 0, decide ((s.length : Int) > 0) = true, s.length ≤ 10000000]
    ok_JSONDecoder_raw_from_text (by intro a b S; kernel_rfl) (by kernel_rfl) (by kernel_rfl) ⟨scanOnce XO h, fun env I => wsNone XO I hz h0, rfl, by omega, by omega, h0, seqIdx_nat (i := 0) l', by simp; omega, hz, trivial⟩ rfl
theorem fromText (XO : SXOk (X0 prog w hb mg mb os)) {s : Str} {v : MVal} (hz : s.length ≤ 10000000) (h0 : s.cps[0]? = some 91) (h : Scn prog w hb mg mb os d s 0 v s.length) :
    CallsTo (X0 prog w hb mg mb os) (d + 3) (.obj (.ref a_JSONDecoder_from_text)) [.insr a_JSONDecoder 0, .str s] [] (LD DL) v (LD DL) :=
  CallsTo.run2 XO (gtok XO) 300 [.v (.tup [v, .int s.length]) (LD DL), .e wsF.pos (.int s.length) (stFrom s s.length v), .b false] tmFrom (.ret v)
    [((s.length : Int) != s.length) = false, s.length ≤ 10000000, ∀ env, Is env (cxF fd_JSONDecoder_from_text) → EvE (X0 prog w hb mg mb os) env (d + 2) wsF (stFrom s s.length v) (.int s.length) (stFrom s s.length v),
      CallsTo (X0 prog w hb mg mb os) (d + 2) (.obj (.ref a_JSONDecoder_raw_from_text)) [.insr a_JSONDecoder 0, .str s] [] (LD DL) (.tup [v, .int s.length]) (LD DL)]
    ok_JSONDecoder_from_text (by intro a b S; kernel_rfl) (by kernel_rfl) (by kernel_rfl) ⟨by simp, hz, fun env I => wsLast XO I hz, rawFrom XO hz h0 h, trivial⟩ rfl
end
end Mine
end
section
open PySem PySem.W PySem.Calls PyProof.Rows
set_option linter.all false
set_option maxRecDepth 100000
namespace Mine
open PySem.Sre (Loop Wait)
/-- a machine on a window of a text, as the machine on the text -/
def eO (b : Nat) (o : Option Nat) : Option Nat := o.map (b + ·)
def eK (b : Nat) (k : Sre.Kept) : Sre.Kept := { k with marks := k.marks.map (eO b) }
def eL (b : Nat) (l : Loop) : Loop := { l with began := eO b l.began }
def eF (b : Nat) (f : Sre.Frame) : Sre.Frame := { f with pos := b + f.pos, kept := eK b f.kept, began := eO b f.began }
def emb (b : Nat) (T : Array Nat) (L : Nat) (m : Sre.M) : Sre.M := { m with text := T, lim := L, start := b + m.start, pos := b + m.pos, handed := b + m.handed, marks := m.marks.map (eO b), loops := m.loops.map (eL b), frames := m.frames.map (eF b) }
section
variable {b : Nat} {T : Array Nat} {L : Nat} {m : Sre.M}
theorem eO_inj {x : Option Nat} {p : Nat} : (eO b x != some (b + p)) = (x != some p) := by
  cases x with
  | none => rfl
  | some q =>
    unfold eO
    simp only [Option.map_some, bne]
    congr 1
    rw [Bool.eq_iff_iff]
    simp only [beq_iff_eq, Option.some.injEq]
    omega
theorem emb_say {y : Bool} : emb b T L (m.say y) = (emb b T L m).say y := rfl
theorem emb_stick {y : String} : emb b T L (m.stick y) = (emb b T L m).stick y := rfl
theorem emb_keep {w : Bool} : eK b (m.keep w) = (emb b T L m).keep w := by
  unfold Sre.M.keep eK emb
  cases w
  · simp
  · simp [Array.map_extract]
theorem emb_putBack {k : Sre.Kept} : emb b T L (m.putBack k) = (emb b T L m).putBack (eK b k) := by
  unfold Sre.M.putBack eK emb
  cases h : k.whole
  · simp [h]
  · simp [h, Array.map_extract]
theorem emb_attempt {f : Sre.Frame} {t p : Nat} {o : Bool} : emb b T L (m.attempt f t p o) = (emb b T L m).attempt (eF b f) t (b + p) o := by
  unfold Sre.M.attempt
  have e : (eF b f).kept.marks.size = f.kept.marks.size := by simp [eF, eK]
  rw [e]
  show _ = if m.weight + 1 + f.kept.marks.size > 16777216 then _ else _
  split <;> rfl
theorem emb_frame {w : Wait} : eF b (m.frame w) = (emb b T L m).frame w := by simp [Sre.M.frame, eF, eK, eO, emb]
theorem emb_loopAt {i : Nat} : (emb b T L m).loopAt i = eL b (m.loopAt i) := by
  simp only [Sre.M.loopAt, emb, Array.getD_eq_getD_getElem?, Array.getElem?_map]
  cases m.loops[i]? <;> rfl
theorem emb_setLoop {i : Nat} {f g : Loop → Loop} (h : ∀ l, eL b (f l) = g (eL b l)) : emb b T L (m.setLoop i f) = (emb b T L m).setLoop i g := by
  have e : (m.loops.modify i f).map (eL b) = (m.loops.map (eL b)).modify i g := by
    apply Array.ext_getElem?
    intro k
    simp only [Array.getElem?_map, Array.getElem?_modify]
    by_cases hk : i = k
    · subst hk
      simp only [if_true, Option.map_map]
      cases m.loops[i]? with
      | none => rfl
      | some l => simp [h]
    · simp [if_neg hk]
  simp only [emb, Sre.M.setLoop, e]
theorem emb_mark {i : Nat} : emb b T L (m.mark i) = (emb b T L m).mark i := by
  have fold : ∀ (l : List Nat) (a : Array (Option Nat)), (l.foldl (fun (a : Array (Option Nat)) (j : Nat) => if (j : Int) > m.lastmark then a.setIfInBounds j none else a) a).map (eO b) = l.foldl (fun (a : Array (Option Nat)) (j : Nat) => if (j : Int) > m.lastmark then a.setIfInBounds j none else a) (a.map (eO b)) := by
    intro l
    induction l with
    | nil => intro a; rfl
    | cons j l ih =>
      intro a
      rw [List.foldl_cons, List.foldl_cons, ih]
      congr 1
      split
      · rw [Array.map_setIfInBounds]; rfl
      · rfl
  unfold Sre.M.mark emb
  dsimp only
  congr 1
  split
  · rw [Array.map_setIfInBounds]; rfl
  · rw [Array.map_setIfInBounds, fold]; rfl
end
end Mine
end
section
open PySem PySem.W PySem.Calls PyProof.Rows
set_option linter.all false
set_option maxRecDepth 100000
namespace Mine
open PySem.Sre (Loop Wait)
/-- the operations of one sign -/
def oneOp : Sre.Op → Bool
  | .LITERAL => true
  | .IN => true
  | .NOT_LITERAL => true
  | _ => false
def runSafe (fin : Bool) (room most : Nat) : Except String (Nat × Sre.Seen) → Bool
  | .ok (k, _) => fin || decide (k < room) || k == most
  | .error _ => false
def safeX (J : List Nat) (fin : Bool) (m : Sre.M) : Bool :=
  match Sre.ops[m.word 0]? with
  | some .SUCCESS => !m.wholeText && !m.mustAdvance
  | some .FAILURE => true
  | some .LITERAL => J.contains m.pc && (decide (m.pos < m.lim) || (fin && decide (m.pos ≤ m.lim)))
  | some .IN => J.contains m.pc && (decide (m.pos < m.lim) || (fin && decide (m.pos ≤ m.lim)))
  | some .NOT_LITERAL => J.contains m.pc && (decide (m.pos < m.lim) || (fin && decide (m.pos ≤ m.lim)))
  | some .JUMP => true
  | some .INFO => true
  | some .MARK => true
  | some .BRANCH => true
  | some .REPEAT => true
  | some .MAX_UNTIL => true
  | some .REPEAT_ONE => J.contains (m.pc + 4) && decide (m.pos ≤ m.lim) && (fin || decide (m.word 2 ≤ m.lim - m.pos)) && runSafe fin (m.lim - m.pos) (m.word 3) (Sre.run m.code m.text (m.pc + 4) (min (m.word 3) (m.lim - m.pos)) m.pos 0 ((m.seen.add (m.word 0)).add (m.word 4)))
  | _ => false
def safeF (y : Bool) (f : Sre.Frame) : Bool :=
  match f.wait with
  | .nextBranch => true
  | .giveBack => y || decide (1 ≤ f.pos) || decide (f.count < 1)
  | .closeLoop => true
  | .maxBelow => true
  | .maxMore => true
  | .maxTail => true
  | _ => false
def safe (J : List Nat) (fin : Bool) (m : Sre.M) : Bool :=
  m.outcome.isSome || match m.answer, m.frames with
  | some _, [] => true
  | some y, f :: _ => safeF y f
  | none, _ => safeX J fin m
section
variable {b : Nat} {T : Array Nat} {L : Nat} {m : Sre.M} {fin : Bool} {J : List Nat} {code : Array Nat}
structure Win (code : Array Nat) (J : List Nat) (b : Nat) (T : Array Nat) (L : Nat) (fin : Bool) (W : Array Nat) (n : Nat) : Prop where
  le : b + n ≤ L
  fin : fin = true → L = b + n
  at_ : ∀ i < n, ∀ j ∈ J, ∀ s, Sre.accepts code j (T.getD (b + i) 0) s = Sre.accepts code j (W.getD i 0) s
theorem run_win {W : Array Nat} {n : Nat} (H : Win code J b T L fin W n) {i : Nat} (hi : i ∈ J) : ∀ (c c' p found : Nat) (seen : Sre.Seen) {k : Nat} {s' : Sre.Seen}, c ≤ n - p → p ≤ n → c ≤ c' → Sre.run code W i c p found seen = .ok (found + k, s') → (c' = c ∨ k < c) → Sre.run code T i c' (b + p) found seen = .ok (found + k, s')
  | 0, c', p, found, seen, k, s', _, _, _, h, hk => by
    rcases hk with rfl | hk
    · exact h
    · omega
  | c + 1, 0, p, found, seen, k, s', _, _, hc, _, _ => by omega
  | c + 1, c' + 1, p, found, seen, k, s', h0, hp, hc, h, hk => by
    unfold Sre.run at h ⊢
    rw [H.at_ p (by omega) i hi]
    cases ha : Sre.accepts code i (W.getD p 0) seen with
    | error w => rw [ha] at h; cases h
    | ok q =>
      obtain ⟨yes, s1⟩ := q
      rw [ha] at h
      cases yes with
      | false => exact h
      | true =>
        have h : Sre.run code W i c (p + 1) (found + 1) s1 = .ok (found + k, s') := h
        have hk' : 1 ≤ k := by
          have mono : ∀ (c p f : Nat) (s : Sre.Seen) {r : Nat} {s' : Sre.Seen}, Sre.run code W i c p f s = .ok (r, s') → f ≤ r := by
            intro c
            induction c with
            | zero => intro p f s r s' h; cases h; exact Nat.le_refl _
            | succ c ih =>
              intro p f s r s' h
              unfold Sre.run at h
              cases ha : Sre.accepts code i (W.getD p 0) s with
              | error w => rw [ha] at h; cases h
              | ok q =>
                obtain ⟨yes, s1⟩ := q
                rw [ha] at h
                cases yes with
                | false => cases h; exact Nat.le_refl _
                | true => exact Nat.le_of_succ_le (ih _ _ _ h)
          have := mono _ _ _ _ h
          omega
        obtain ⟨j, rfl⟩ : ∃ j, k = j + 1 := ⟨k - 1, by omega⟩
        have e : found + (j + 1) = found + 1 + j := by omega
        rw [e] at h ⊢
        exact run_win H hi c c' (p + 1) (found + 1) s1 (by omega) (by omega) (by omega) h (by omega)
theorem emb_alternative {alt : Nat} {k : Sre.Kept} : emb b T L (m.alternative alt k) = (emb b T L m).alternative alt (eK b k) := by
  unfold Sre.M.alternative
  show emb b T L (if m.code.getD alt 0 == 0 then _ else _) = if m.code.getD alt 0 == 0 then _ else _
  split
  · rfl
  · rw [emb_attempt]
    rfl
theorem emb_afterRun {w : Wait} {c : Int} {k : Sre.Kept} : emb b T L (m.afterRun w c k) = (emb b T L m).afterRun w c (eK b k) := by
  unfold Sre.M.afterRun
  rw [emb_attempt]
  rfl
theorem emb_afterLoop {w : Wait} {i : Nat} {c : Int} : emb b T L (m.afterLoop w i c fun _ => false) = (emb b T L m).afterLoop w i c fun _ => false := by
  unfold Sre.M.afterLoop
  dsimp only
  rw [emb_attempt, emb_loopAt]
  have e : eK b (Sre.M.keep { m with inner := (m.loopAt i).outer } false) = Sre.M.keep { emb b T L m with inner := (eL b (m.loopAt i)).outer } false := emb_keep
  show Sre.M.attempt { emb b T L m with inner := (m.loopAt i).outer } ⟨w, m.pc, b + m.pos, m.outermost, c, eK b (Sre.M.keep { m with inner := (m.loopAt i).outer } false), i, none⟩ m.pc (b + m.pos) m.outermost = _
  rw [e]
  rfl
theorem emb_round {w : Wait} {i : Nat} {c : Int} {g : Bool} {k : Sre.Kept} : emb b T L (m.round w i c g k) = (emb b T L m).round w i c g (eK b k) := by
  unfold Sre.M.round
  dsimp only
  rw [emb_attempt, emb_loopAt, emb_setLoop (g := fun l => { l with count := c, began := if g then some (b + m.pos) else l.began }) (fun l => by cases g <;> rfl)]
  rfl
theorem eK_nil : eK b {} = {} := by simp [eK]
theorem emb_until : emb b T L (m.until_ true) = (emb b T L m).until_ true := by
  unfold Sre.M.until_
  show emb b T L (match m.inner with | none => _ | some i => _) = match m.inner with | none => _ | some i => _
  split
  · rfl
  · rename_i i hi
    dsimp only
    rw [emb_loopAt]
    have e1 : (eL b (m.loopAt i)).count = (m.loopAt i).count := rfl
    have e2 : (eL b (m.loopAt i)).pc = (m.loopAt i).pc := rfl
    have e3 : ((eL b (m.loopAt i)).began != some (emb b T L m).pos) = ((m.loopAt i).began != some m.pos) := eO_inj
    have e4 : (emb b T L m).code = m.code := rfl
    rw [e1, e2, e3, e4]
    simp only [if_true, Bool.not_true, Bool.false_eq_true, if_false]
    split
    · rw [emb_round, eK_nil]
    · split
      · rw [emb_round, emb_keep (T := T) (L := L)]
      · exact emb_afterLoop
end
end Mine
end
section
open PySem PySem.W PySem.Calls PyProof.Rows
set_option linter.all false
set_option maxRecDepth 100000
namespace Mine
open PySem.Sre (Loop Wait)
section
variable {b : Nat} {T : Array Nat} {L : Nat} {m : Sre.M} {fin : Bool} {J : List Nat}
theorem emb_exec (H : Win m.code J b T L fin m.text m.lim) (h : safeX J fin m = true) : emb b T L m.exec = (emb b T L m).exec := by
  have ew : ∀ k, (emb b T L m).word k = m.word k := fun k => rfl
  unfold safeX at h
  unfold Sre.M.exec
  rw [ew]
  cases ho : Sre.ops[m.word 0]? with
  | none => rfl
  | some op =>
    rw [ho] at h
    have one : (J.contains m.pc && (decide (m.pos < m.lim) || (fin && decide (m.pos ≤ m.lim)))) = true → emb b T L (if m.pos ≥ m.lim then { m with seen := m.seen.add (m.word 0) }.say false else match Sre.accepts m.code m.pc (m.text.getD m.pos 0) (m.seen.add (m.word 0)) with
        | .error why => { m with seen := m.seen.add (m.word 0) }.stick why
        | .ok (false, seen) => { m with seen }.say false
        | .ok (true, seen) => { m with seen, pc := m.pc + Sre.itemWidth m.code m.pc, pos := m.pos + 1 }) =
        (if b + m.pos ≥ L then { emb b T L m with seen := m.seen.add (m.word 0) }.say false else match Sre.accepts m.code m.pc (T.getD (b + m.pos) 0) (m.seen.add (m.word 0)) with
        | .error why => { emb b T L m with seen := m.seen.add (m.word 0) }.stick why
        | .ok (false, seen) => { emb b T L m with seen }.say false
        | .ok (true, seen) => { emb b T L m with seen, pc := m.pc + Sre.itemWidth m.code m.pc, pos := b + m.pos + 1 }) := by
      intro h
      rw [Bool.and_eq_true, List.contains_iff_mem] at h
      obtain ⟨hj, h⟩ := h
      by_cases hp : m.pos < m.lim
      · have := H.le
        rw [if_neg (by omega), if_neg (by omega), H.at_ _ hp _ hj]
        split <;> rfl
      · simp only [decide_eq_false hp, Bool.false_or, Bool.and_eq_true, decide_eq_true_eq] at h
        have := H.fin h.1
        rw [if_pos (by omega), if_pos (by omega)]
        rfl
    cases op <;> first | (cases h; done) | skip
    case FAILURE => rfl
    case SUCCESS =>
      simp only [Bool.and_eq_true, Bool.not_eq_true'] at h
      dsimp only
      have e1 : (emb b T L m).wholeText = m.wholeText := rfl
      have e2 : (emb b T L m).mustAdvance = m.mustAdvance := rfl
      rw [e1, e2, h.1, h.2]
      simp only [Bool.false_and, Bool.or_self, Bool.and_false, Bool.false_eq_true, if_false]
      rfl
    case LITERAL => exact one h
    case IN => exact one h
    case NOT_LITERAL => exact one h
    case JUMP => rfl
    case INFO => rfl
    case MARK => exact emb_mark
    case BRANCH =>
      dsimp only
      rw [emb_alternative, emb_keep (T := T) (L := L)]
      rfl
    case REPEAT =>
      dsimp only
      rw [emb_attempt]
      simp only [emb, Array.map_push, Array.size_map]
      show Sre.M.attempt _ ⟨.closeLoop, m.pc, b + m.pos, m.outermost, 0, eK b {}, m.loops.size, none⟩ _ _ _ = _
      rw [eK_nil]
      rfl
    case MAX_UNTIL => exact emb_until
    case REPEAT_ONE =>
      simp only [Bool.and_eq_true, Bool.or_eq_true, decide_eq_true_eq, List.contains_iff_mem] at h
      obtain ⟨⟨⟨hj, h1⟩, h2⟩, h3⟩ := h
      have hle := H.le
      have hroom : ((L : Int) - ((b + m.pos : Nat) : Int)).toNat = L - (b + m.pos) := by omega
      have hroom' : ((m.lim : Int) - (m.pos : Int)).toNat = m.lim - m.pos := by omega
      have c1 : ((m.word 2 : Int) > (m.lim : Int) - m.pos) ↔ ((m.word 2 : Int) > (L : Int) - ((b + m.pos : Nat) : Int)) := by
        rcases h2 with h2 | h2
        · have := H.fin h2; omega
        · omega
      cases hr : Sre.run m.code m.text (m.pc + 4) (min (m.word 3) (m.lim - m.pos)) m.pos 0 ((m.seen.add (m.word 0)).add (m.word 4)) with
      | error why => rw [hr] at h3; cases h3
      | ok q =>
        obtain ⟨k, s'⟩ := q
        rw [hr] at h3
        have h3 : (fin || decide (k < m.lim - m.pos) || k == m.word 3) = true := h3
        simp only [Bool.or_eq_true, decide_eq_true_eq, beq_iff_eq] at h3
        have hb : k ≤ min (m.word 3) (m.lim - m.pos) := by
          have bound : ∀ (c p f : Nat) (s : Sre.Seen) {r : Nat} {s' : Sre.Seen}, Sre.run m.code m.text (m.pc + 4) c p f s = .ok (r, s') → r ≤ f + c := by
            intro c
            induction c with
            | zero => intro p f s r s' h; cases h; exact Nat.le_refl _
            | succ c ih =>
              intro p f s r s' h
              unfold Sre.run at h
              cases ha : Sre.accepts m.code (m.pc + 4) (m.text.getD p 0) s with
              | error w => rw [ha] at h; cases h
              | ok q =>
                obtain ⟨yes, s1⟩ := q
                rw [ha] at h
                cases yes with
                | false => cases h; omega
                | true => have := ih _ _ _ h; omega
          have := bound _ _ _ _ hr
          omega
        have hr2 : Sre.run m.code T (m.pc + 4) (min (m.word 3) (L - (b + m.pos))) (b + m.pos) 0 ((m.seen.add (m.word 0)).add (m.word 4)) = .ok (k, s') := by
          have hr' : Sre.run m.code m.text (m.pc + 4) (min (m.word 3) (m.lim - m.pos)) m.pos 0 ((m.seen.add (m.word 0)).add (m.word 4)) = .ok (0 + k, s') := by rw [Nat.zero_add]; exact hr
          have := run_win H hj (min (m.word 3) (m.lim - m.pos)) (min (m.word 3) (L - (b + m.pos))) m.pos 0 _ (by omega) h1 (by omega) hr' (by
            rcases h3 with (h3 | h3) | h3
            · have := H.fin h3; omega
            · omega
            · omega)
          rw [Nat.zero_add] at this
          exact this
        show emb b T L (if (m.word 2 : Int) > (m.lim : Int) - m.pos then { m with seen := m.seen.add (m.word 0) }.say false else match Sre.run m.code m.text (m.pc + 4) (min (m.word 3) ((m.lim : Int) - m.pos).toNat) m.pos 0 ((m.seen.add (m.word 0)).add (m.word 4)) with
            | .error why => { m with seen := m.seen.add (m.word 0) }.stick why
            | .ok (n, seen) => if n < m.word 2 then { m with seen }.say false else Sre.M.afterRun { m with seen, pos := m.pos + n } .giveBack n (Sre.M.keep { m with seen, pos := m.pos + n } m.inner.isSome)) =
          (if (m.word 2 : Int) > (L : Int) - ((b + m.pos : Nat) : Int) then { emb b T L m with seen := m.seen.add (m.word 0) }.say false else match Sre.run m.code T (m.pc + 4) (min (m.word 3) ((L : Int) - ((b + m.pos : Nat) : Int)).toNat) (b + m.pos) 0 ((m.seen.add (m.word 0)).add (m.word 4)) with
            | .error why => { emb b T L m with seen := m.seen.add (m.word 0) }.stick why
            | .ok (n, seen) => if n < m.word 2 then { emb b T L m with seen }.say false else Sre.M.afterRun { emb b T L m with seen, pos := b + m.pos + n } .giveBack n (Sre.M.keep { emb b T L m with seen, pos := b + m.pos + n } m.inner.isSome))
        rw [hroom, hroom', hr, hr2]
        by_cases hc : (m.word 2 : Int) > (m.lim : Int) - m.pos
        · rw [if_pos hc, if_pos (c1.mp hc)]; rfl
        · rw [if_neg hc, if_neg (fun e => hc (c1.mpr e))]
          dsimp only
          split
          · rfl
          · rw [emb_afterRun, emb_keep (T := T) (L := L), Nat.add_assoc b m.pos k]
            rfl
end
end Mine
end
section
open PySem PySem.W PySem.Calls PyProof.Rows
set_option linter.all false
set_option maxRecDepth 100000
namespace Mine
open PySem.Sre (Loop Wait)
section
variable {b : Nat} {T : Array Nat} {L : Nat} {m : Sre.M} {fin : Bool} {J : List Nat} {code : Array Nat}
theorem emb_resume {f : Sre.Frame} {y : Bool} (hf : safeF y f = true) (hp : m.pos = f.pos) (hpc : m.pc = f.pc) : emb b T L (Sre.M.resume m f y) = Sre.M.resume (emb b T L m) (eF b f) y := by
  unfold safeF at hf
  obtain ⟨w, pc, pos, o, c, k, l, bg⟩ := f
  dsimp only at hf hp hpc
  subst hp hpc
  cases w <;> first | (cases hf; done) | skip
  case nextBranch =>
    cases y
    · show emb b T L ((m.putBack k).alternative (m.pc + m.code.getD m.pc 0) k) = ((emb b T L m).putBack (eK b k)).alternative (m.pc + m.code.getD m.pc 0) (eK b k)
      rw [emb_alternative, emb_putBack]
    · rfl
  case giveBack =>
    cases y
    · simp only [Bool.false_or, Bool.or_eq_true, decide_eq_true_eq] at hf
      show emb b T L (if c - 1 < (m.word 2 : Int) then (m.putBack k).say false else Sre.M.afterRun { m.putBack k with pos := m.pos - 1 } .giveBack (c - 1) k) =
        if c - 1 < (m.word 2 : Int) then ((emb b T L m).putBack (eK b k)).say false else Sre.M.afterRun { (emb b T L m).putBack (eK b k) with pos := b + m.pos - 1 } .giveBack (c - 1) (eK b k)
      split
      · rw [emb_say, emb_putBack]
      · rw [emb_afterRun, ← emb_putBack, show b + m.pos - 1 = b + (m.pos - 1) by omega]
        rfl
    · rfl
  case closeLoop =>
    show emb b T L ({ m with inner := (m.loopAt l).outer, loops := m.loops.pop }.say y) = { emb b T L m with inner := ((emb b T L m).loopAt l).outer, loops := (m.loops.map (eL b)).pop }.say y
    rw [emb_loopAt, ← Array.map_pop]
    rfl
  case maxBelow =>
    cases y
    · show emb b T L ((m.setLoop l fun q => { q with count := c - 1 }).say false) = ((emb b T L m).setLoop l fun q => { q with count := c - 1 }).say false
      rw [emb_say, emb_setLoop (g := fun q => { q with count := c - 1 }) (fun _ => rfl)]
    · rfl
  case maxMore =>
    have e0 : emb b T L (m.setLoop l fun q => { q with began := bg }) = (emb b T L m).setLoop l fun q => { q with began := eO b bg } := emb_setLoop (fun _ => rfl)
    cases y
    · show emb b T L ((((m.setLoop l fun q => { q with began := bg }).putBack k).setLoop l fun q => { q with count := c - 1 }).afterLoop .maxTail l c fun _ => false) =
        ((((emb b T L m).setLoop l fun q => { q with began := eO b bg }).putBack (eK b k)).setLoop l fun q => { q with count := c - 1 }).afterLoop .maxTail l c fun _ => false
      rw [emb_afterLoop, emb_setLoop (g := fun q => { q with count := c - 1 }) (fun _ => rfl), emb_putBack, e0]
    · show emb b T L ((m.setLoop l fun q => { q with began := bg }).say true) = ((emb b T L m).setLoop l fun q => { q with began := eO b bg }).say true
      rw [emb_say, e0]
  case maxTail => rfl
theorem emb_step (H : Win m.code J b T L fin m.text m.lim) (h : safe J fin m = true) : emb b T L m.step = (emb b T L m).step := by
  unfold safe at h
  unfold Sre.M.step
  show emb b T L (if m.outcome.isSome then m else _) = if m.outcome.isSome then emb b T L m else _
  by_cases ho : m.outcome.isSome = true
  · rw [if_pos ho, if_pos ho]
  · rw [if_neg ho, if_neg ho]
    have ho' : m.outcome.isSome = false := by simpa using ho
    rw [ho', Bool.false_or] at h
    have ea : (emb b T L m).answer = m.answer := rfl
    have ef : (emb b T L m).frames = m.frames.map (eF b) := rfl
    rw [ea, ef]
    cases ha : m.answer with
    | none =>
      rw [ha] at h
      dsimp only at h ⊢
      show emb b T L (if m.pc < m.code.size then _ else _) = if m.pc < m.code.size then _ else _
      split
      · exact emb_exec H h
      · rfl
    | some y =>
      rw [ha] at h
      cases hf : m.frames with
      | nil => rfl
      | cons f r =>
        rw [hf] at h
        dsimp only at h ⊢
        rw [emb_resume h rfl rfl]
        have e : (eF b f).kept.marks.size = f.kept.marks.size := by simp [eF, eK]
        simp only [List.map_cons]
        rw [e]
        rfl
/-- steps that are safe -/
def pin (W : Array Nat) (n : Nat) (m : Sre.M) : Sre.M := { m with text := W, lim := n }
def safeRun (code : Array Nat) (J : List Nat) (fin : Bool) (W : Array Nat) (n : Nat) : Nat → Sre.M → Option Sre.M
  | 0, m => some m
  | k + 1, m => if m.outcome.isSome then some m else if (m.code.toList == code.toList && safe J fin m) = true then safeRun code J fin W n k (pin W n m.step) else none
theorem emb_pin {W : Array Nat} {n : Nat} : emb b T L (pin W n m) = emb b T L m := rfl
theorem safeRun_ok {W : Array Nat} {n : Nat} (H : Win code J b T L fin W n) : ∀ (k : Nat) {m m' : Sre.M}, m.text = W → m.lim = n → safeRun code J fin W n k m = some m' → Sre.M.runFor k (emb b T L m) = emb b T L m'
  | 0, m, m', _, _, h => by cases h; rfl
  | k + 1, m, m', h1, h2, h => by
    unfold safeRun at h
    unfold Sre.M.runFor
    show (if m.outcome.isSome then emb b T L m else _) = _
    split at h
    · rename_i ho
      cases h
      rw [if_pos ho]
    · rename_i ho
      rw [if_neg ho]
      split at h
      · rename_i hs
        rw [Bool.and_eq_true, beq_iff_eq] at hs
        have hc : m.code = code := Array.toList_inj.mp hs.1
        have hst := emb_step (b := b) (T := T) (L := L) (m := m) (by rw [h1, h2, hc]; exact H) hs.2
        have := safeRun_ok H k (m := pin W n m.step) rfl rfl h
        rw [emb_pin, hst] at this
        exact this
      · cases h
end
end Mine
end
section
open PySem PySem.W PySem.Calls PyProof.Rows
set_option linter.all false
set_option maxRecDepth 100000
namespace Mine
open PySem.Builtin.Re
theorem forMatch_win {code : Array Nat} {J : List Nat} {b L : Nat} {T : Array Nat} {fin : Bool} {W : Array Nat} {n : Nat} (H : Win code J b T L fin W n) {groups : Nat} (hl : (Sre.header code).1 ≤ n) :
    Sre.forMatch code T groups b L false false = emb b T L (Sre.forMatch code W groups 0 n false false) := by
  have h1 : ((Sre.header code).1 != 0 && decide (b ≤ L) && decide (L - b < (Sre.header code).1)) = false := by
    have := H.le
    rw [decide_eq_false (p := L - b < (Sre.header code).1) (by omega), Bool.and_false]
  have h2 : ((Sre.header code).1 != 0 && decide (0 ≤ n) && decide (n - 0 < (Sre.header code).1)) = false := by
    rw [decide_eq_false (p := n - 0 < (Sre.header code).1) (by omega), Bool.and_false]
  unfold Sre.forMatch
  refine (if_neg (by rw [h1]; exact Bool.false_ne_true)).trans ?_
  refine Eq.trans ?_ (congrArg (emb b T L) (if_neg (by rw [h2]; exact Bool.false_ne_true)).symm)
  show ({ code := code, text := T, lim := L, start := b, pc := (Sre.header code).2, pos := b, handed := b, marks := Array.replicate (2 * groups) none, seen := if (Sre.header code).2 == 0 then {} else ({} : Sre.Seen).add 14 } : Sre.M) =
    emb b T L { code := code, text := W, lim := n, start := 0, pc := (Sre.header code).2, pos := 0, handed := 0, marks := Array.replicate (2 * groups) none, seen := if (Sre.header code).2 == 0 then {} else ({} : Sre.Seen).add 14 }
  unfold emb
  simp [eO]
/-- where the groups lie -/
def spanL (groups : Nat) (m : Sre.M) : List (Option (Nat × Nat)) := (List.range groups).map fun g =>
  match if ((2 * g + 1 : Nat) : Int) ≤ m.lastmark then (m.marks.getD (2 * g) none, m.marks.getD (2 * g + 1) none) else (none, none) with
  | (some b, some e) => some (b, e)
  | _ => none
def ordered (groups : Nat) (m : Sre.M) : Bool := !((List.range groups).any (fun g => match m.marks.getD (2 * g) none, m.marks.getD (2 * g + 1) none with | some b, some e => ((2 * g + 1 : Nat) : Int) ≤ m.lastmark && e < b | _, _ => false))
def spM (b : Nat) : Option (Nat × Nat) → List MVal
  | some (x, y) => [.int ((b + x : Nat) : Int), .int ((b + y : Nat) : Int)]
  | none => [.int (-1), .int (-1)]
def spB (b : Nat) : Option (Nat × Nat) → Int
  | some (x, _) => ((b + x : Nat) : Int)
  | none => -1
def spE (b : Nat) : Option (Nat × Nat) → Int
  | some (_, y) => ((b + y : Nat) : Int)
  | none => -1
theorem getD_emb {b : Nat} {a : Array (Option Nat)} {i : Nat} : (a.map (eO b)).getD i none = eO b (a.getD i none) := by
  simp only [Array.getD_eq_getD_getElem?, Array.getElem?_map]
  cases a[i]? <;> rfl
theorem span_emb {b L : Nat} {T : Array Nat} {groups : Nat} {m : Sre.M} : spanM groups (emb b T L m) = (spanL groups m).flatMap (spM b) := by
  unfold spanM spanL
  rw [List.flatMap_map]
  congr 1
  funext g
  have e1 : (emb b T L m).marks = m.marks.map (eO b) := rfl
  have e2 : (emb b T L m).lastmark = m.lastmark := rfl
  rw [e1, e2, getD_emb, getD_emb]
  by_cases h : ((2 * g + 1 : Nat) : Int) ≤ m.lastmark
  · rw [if_pos h, if_pos h]
    cases m.marks.getD (2 * g) none <;> cases m.marks.getD (2 * g + 1) none <;> rfl
  · rw [if_neg h, if_neg h]; rfl
theorem ordered_emb {b L : Nat} {T : Array Nat} {groups : Nat} {m : Sre.M} (h : ordered groups m = true) :
    (List.range groups).any (fun g => match (emb b T L m).marks.getD (2 * g) none, (emb b T L m).marks.getD (2 * g + 1) none with | some b, some e => ((2 * g + 1 : Nat) : Int) ≤ (emb b T L m).lastmark && e < b | _, _ => false) = false := by
  unfold ordered at h
  rw [Bool.not_eq_true'] at h
  refine Eq.trans ?_ h
  congr 1
  funext g
  have e1 : (emb b T L m).marks = m.marks.map (eO b) := rfl
  rw [e1, getD_emb, getD_emb]
  generalize m.marks.getD (2 * g) none = o1
  generalize m.marks.getD (2 * g + 1) none = o2
  cases o1 with
  | none => rfl
  | some x =>
  cases o2 with
  | none => rfl
  | some y =>
  show (decide (((2 * g + 1 : Nat) : Int) ≤ m.lastmark) && decide (b + y < b + x)) = (decide (((2 * g + 1 : Nat) : Int) ≤ m.lastmark) && decide (y < x))
  congr 1
  rw [decide_eq_decide]; omega
/-- what a match on a window says: whether, how far, the last group, the groups -/
def winSum (code : Array Nat) (J : List Nat) (W : Array Nat) (groups : Nat) (fin : Bool) (k : Nat) : Option (Bool × Nat × Int × List (Option (Nat × Nat))) :=
  if (Sre.header code).1 ≤ W.size then
  (safeRun code J fin W W.size (4 * (k + 1)) (Sre.forMatch code W groups 0 W.size false false)).bind fun m => match m.outcome with
    | some .matched => if ordered groups m && (m.start == 0) then some (true, m.handed, m.lastindex, spanL groups m) else none
    | some .failed => if ordered groups m then some (false, 0, 0, []) else none
    | _ => none
  else none
def matW (x : Str) (p : Addr) (b : Nat) (e : Nat) (li : Int) (sp : List (Option (Nat × Nat))) : MVal :=
  .fo "re.Match" [.str x, .obj (.ref p), .int b, .int x.length, .int li, .tup (.int b :: .int ((b + e : Nat) : Int) :: sp.flatMap (spM b))]
section
variable {X : SX} {env : Env} {d : Nat} {st st' : St} {fz kp : FH} {kg : Nat → Option GenState} {ρ : List Addr} {led : List MObj} {s : Shared}
theorem AppE.matchW (XO : SXOk X) {f : MVal} {p : Addr} {code : Array Nat} {groups : Nat} {x : Str} {b : Nat} {J : List Nat} {W : Array Nat} {fin : Bool} (k : Nat) {yes : Bool} {e : Nat} {li : Int} {sp : List (Option (Nat × Nat))}
    (P : PatK X p code groups) (hf : isMatchK X f p) (hz : x.length ≤ 10000000) (hk : k < 1000000) (hgs : groups ≤ 1000) (H : Win code J b x.cps x.length fin W W.size) (h : winSum code J W groups fin k = some (yes, e, li, sp)) :
    AppE X env d f [.str x, .int b] [] st (if yes then matW x p b e li sp else .none) st := by
  unfold winSum at h
  split at h
  · rename_i hl
    obtain ⟨m, h1, h⟩ := bind_some h
    have hle := H.le
    have hbz : b ≤ x.length := by omega
    have hsz : x.cps.size = x.length := rfl
    have hc : clipN (b : Int) x.cps.size = b := by unfold clipN; rw [hsz]; omega
    have hW : (Sre.forMatch code W groups 0 W.size false false).text = W ∧ (Sre.forMatch code W groups 0 W.size false false).lim = W.size := by
      unfold Sre.forMatch
      dsimp only
      split <;> exact ⟨rfl, rfl⟩
    have hrun := safeRun_ok H (4 * (k + 1)) hW.1 hW.2 h1
    rw [← forMatch_win H hl] at hrun
    have hrun' : (Sre.forMatch code x.cps groups (clipN (b : Int) x.cps.size) x.cps.size false false).runFor (4 * (k + 1)) = emb b x.cps x.length m := by rw [hc, hsz]; exact hrun
    split at h
    · rename_i ho
      split at h
      · rename_i hor
        simp only [Bool.and_eq_true, beq_iff_eq] at hor
        cases h
        have hm := AppE.match_ (env := env) (d := d) (st := st) XO (k := b) (n := k) (yes := true) P hf (by omega) (by omega) (by rw [hsz]; omega) (by omega) hrun' (by show m.outcome = _; rw [ho]; rfl) (ordered_emb hor.1) hgs
        rw [if_pos rfl] at hm ⊢
        have hE : matM x p b groups (emb b x.cps x.length m) = matW x p b m.handed m.lastindex (spanL groups m) := by
          unfold matM matW
          rw [span_emb, hc, hsz]
          have e1 : (emb b x.cps x.length m).start = b + m.start := rfl
          have e2 : (emb b x.cps x.length m).handed = b + m.handed := rfl
          have e3 : (emb b x.cps x.length m).lastindex = m.lastindex := rfl
          rw [e1, e2, e3, hor.2, Nat.add_zero]
        rw [hE] at hm
        exact hm
      · cases h
    · rename_i ho
      split at h
      · rename_i hor
        cases h
        have hm := AppE.match_ (env := env) (d := d) (st := st) XO (k := b) (n := k) (yes := false) P hf (by omega) (by omega) (by rw [hsz]; omega) (by omega) hrun' (by show m.outcome = _; rw [ho]; rfl) (ordered_emb hor) hgs
        exact hm
      · cases h
    · cases h
  · cases h
-- the groups of a match
theorem slot_mat_groups : Slot "re.Match" "groups" "re.Match.groups" :=
  .of (owner := "re.Match") (n := "groups") (by rw [typeLookup_type, builtinLookup_eq_fast]; kernel_rfl) (by decide +kernel) (by decide +kernel) (by decide +kernel)
    (by first | exact .inl (by decide +kernel) | exact .inr (by decide +kernel)) (by rw [isSubtype_type]; kernel_rfl)
theorem type_mat_groups : typeOf (.builtin "re.Match.groups") = pure (.type "method_descriptor") := by show builtinType _ = _; rw [builtinType_eq_fast]; kernel_rfl
theorem entry_mat_groups : entryFor table "re.Match.groups" = some Builtin.«re.Match.groups» := entryFor_of_tree (by kernel_rfl)
theorem args_mat_groups (a : Value) : argsOk "re.Match.groups" ⟨[a], []⟩ := by unfold argsOk; kernel_rfl
theorem MtE.matGroups {vs : List MVal} : MtE X env d (.fo "re.Match" vs) "groups" st (.obj (.builtin "re.Match.groups")) [.fo "re.Match" vs] st := fun A fz kp kg ρ s va pl ok R h Q E q => by
  have h' := h
  simp only [VRel] at h
  obtain ⟨a, arr, rfl, h1, h2⟩ := h
  exact getMethod_builtin ⟨_, R.ifz _ _ h1, rfl⟩ plainAttrs_mat slot_mat_groups type_mat_groups (fun b e => by cases e; exact ⟨_, R.ifz _ _ h1, rfl⟩) (q _ _ _ _ R (.refl _ _) ⟨by simp [VRel], by simp only [VRels]; exact ⟨_, _, rfl, h', rfl⟩⟩)
def grM (x : Str) (b : Nat) : Option (Nat × Nat) → MVal
  | some (i, j) => .str ⟨x.cps.extract (b + i) (b + j)⟩
  | none => .none
theorem extract_len {x : Str} {i j : Nat} : (⟨x.cps.extract i j⟩ : Str).length ≤ x.length := by
  show (x.cps.extract i j).size ≤ x.cps.size
  rw [Array.size_extract]; omega
theorem sp_cons {b : Nat} {o : Option (Nat × Nat)} {r : List MVal} {pre : List Value} (h : VRels fz ρ (spM b o ++ r) pre) : ∃ u v tl tu tv, pre = .int u tu :: .int v tv :: tl ∧ VRels fz ρ r tl ∧ u = spB b o ∧ v = spE b o := by
  cases o with
  | none =>
    simp only [spM, List.cons_append, List.nil_append, VRels, VRel] at h
    obtain ⟨_, _, rfl, ⟨t1, rfl⟩, _, _, rfl, ⟨t2, rfl⟩, h2⟩ := h
    exact ⟨_, _, _, _, _, rfl, h2, rfl, rfl⟩
  | some p =>
    simp only [spM, List.cons_append, List.nil_append, VRels, VRel] at h
    obtain ⟨_, _, rfl, ⟨t1, rfl⟩, _, _, rfl, ⟨t2, rfl⟩, h2⟩ := h
    exact ⟨_, _, _, _, _, rfl, h2, rfl, rfl⟩
theorem sp_raw {b : Nat} {arr2 : Array Value} : ∀ (sp : List (Option (Nat × Nat))) (pre : List Value), VRels fz ρ (sp.flatMap (spM b)) pre → ∀ g < sp.length, (pre.map reRawOf).getD (2 * g) (-1) = spB b (sp.getD g none) ∧ (pre.map reRawOf).getD (2 * g + 1) (-1) = spE b (sp.getD g none)
  | [], _, _, g, hg => by simp at hg
  | o :: sp, pre, h, g, hg => by
    rw [List.flatMap_cons] at h
    obtain ⟨u, v, tl, tu, tv, rfl, htl, e1, e2⟩ := sp_cons h
    clear h
    cases g with
    | zero => exact ⟨e1, e2⟩
    | succ g =>
      have := sp_raw (arr2 := arr2) sp tl htl g (by simpa using hg)
      have q1 : 2 * (g + 1) = 2 * g + 1 + 1 := by omega
      rw [q1]
      simpa using this
theorem wp_groups {M : Model} {A : Around} {E : Value → Shared → Prop} {x : Str} {t : Tok} {b : Nat} {sp : List (Option (Nat × Nat))} {XF : ReFound} (hx : XF.fields.getD 0 .none = .str x t) (hz : x.length ≤ 10000000)
    (hs : ∀ g < sp.length, XF.spans.getD (2 * (g + 1)) (-1) = spB b (sp.getD g none) ∧ XF.spans.getD (2 * (g + 1) + 1) (-1) = spE b (sp.getD g none)) :
    ∀ (l : List Nat), (∀ g ∈ l, g < sp.length) → ∀ (s : Shared) (Q : List Value → Shared → Prop), (∀ vs tk, VRels fz ρ (l.map fun g => grM x b (sp.getD g none)) vs → vs.length = l.length → Q vs { s with toks := tk }) → wpAny M A (l.mapM fun g => reGroupText XF (g + 1) .none) Q E s
  | [], _, s, Q, q => by rw [List.mapM_nil]; exact wpAny_pure (q [] s.toks (by simp [VRels]) rfl)
  | g :: l, hl, s, Q, q => by
    rw [List.mapM_cons]
    obtain ⟨h1, h2⟩ := hs g (hl g List.mem_cons_self)
    have key : ∀ Q1 : Value → Shared → Prop, (∀ v tk, VRel fz ρ (grM x b (sp.getD g none)) v → Q1 v { s with toks := tk }) → wpAny M A (reGroupText XF (g + 1) .none) Q1 E s := by
      intro Q1 q1
      unfold reGroupText
      dsimp only
      rw [h1, h2, hx]
      clear h1 h2
      revert q1
      generalize sp.getD g none = o
      intro q1
      cases o with
      | none =>
        refine wpAny_ite_true (by show (decide ((-1 : Int) < 0) || decide ((-1 : Int) < 0)) = true; decide) (wpAny_pure (q1 .none s.toks (by simp [grM, VRel])))
      | some p =>
        obtain ⟨i, j⟩ := p
        have hneg : ¬ ((decide (spB b (some (i, j)) < 0) || decide (spE b (some (i, j)) < 0)) = true) := by
          have e1 : spB b (some (i, j)) = ((b + i : Nat) : Int) := rfl
          have e2 : spE b (some (i, j)) = ((b + j : Nat) : Int) := rfl
          rw [e1, e2]
          simp only [Bool.or_eq_true, decide_eq_true_eq, not_or]
          omega
        refine wpAny_ite_false (decide_eq_false hneg) ?_
        refine wpAny_bind (wpAny_of_eq (a := (x.cps, 0)) (by unfold reTextOf; kernel_rfl) ?_)
        dsimp only
        show wpAny M A (mkStr ⟨x.cps.extract (b + i) (b + j)⟩) Q1 E s
        have hlen := extract_len (x := x) (i := b + i) (j := b + j)
        exact wpAny_mkStr (q1 _ _ (by simp only [grM, VRel]; exact ⟨_, rfl⟩)) (by rw [sizeLine_eq]; omega)
    refine wpAny_bind (key _ fun v tk hv => ?_)
    refine wpAny_bind (wp_groups hx hz hs l (fun g' hg => hl g' (List.mem_cons_of_mem _ hg)) _ _ fun vs tk2 hvs hlen => ?_)
    exact wpAny_pure (q _ _ (by simp only [List.map_cons, VRels]; exact ⟨_, _, rfl, hv, hvs⟩) (by simp [hlen]))
theorem spM_len {b : Nat} : ∀ (sp : List (Option (Nat × Nat))), (sp.flatMap (spM b)).length = 2 * sp.length
  | [] => rfl
  | o :: sp => by
    rw [List.flatMap_cons, List.length_append, spM_len sp]
    cases o <;> simp [spM] <;> omega
theorem AppE.matGroups {x : Str} {v1 v2 v3 v4 : MVal} {i0 i1 : Int} {b : Nat} {sp : List (Option (Nat × Nat))} (hz : x.length ≤ 10000000) (hn : sp.length ≤ 1000) :
    AppE X env d (.obj (.builtin "re.Match.groups")) [.fo "re.Match" [.str x, v1, v2, v3, v4, .tup (.int i0 :: .int i1 :: sp.flatMap (spM b))]] [] st (.tup (sp.map (grM x b))) st :=
  fun A fz kp kg ρ s fv us kvs ok R hfv hv hkv Q E q => by
    have ek := kvs_nil hkv; subst ek
    simp only [VRel] at hfv; subst hfv
    simp only [VRels] at hv
    obtain ⟨m, r, rfl, hm, rfl⟩ := hv
    simp only [VRel, VRels] at hm
    obtain ⟨a, arr, rfl, h1, u0, l0, e0, ⟨tx, rfl⟩, u1, l1, rfl, _, u2, l2, rfl, _, u3, l3, rfl, _, u4, l4, rfl, _, u5, l5, rfl, ⟨c, arr2, rfl, h2, w0, k0, e1, ⟨tk0, rfl⟩, w1, k1, rfl, ⟨tk, rfl⟩, hsp⟩, rfl⟩ := hm
    have ha : arr = #[.str x tx, u1, u2, u3, u4, .ref c] := by rw [← Array.toArray_toList (xs := arr), e0]
    subst ha
    have hk1 : k1.length = 2 * sp.length := by
      have := VRels.length hsp
      rw [this, spM_len]
    have hsz2 : arr2.size = 2 + 2 * sp.length := by
      rw [← Array.length_toList, e1]; simp [hk1]; omega
    refine wpAny_call (codeAny_call_builtin slot_mat_groups.plain entry_mat_groups (slot_mat_groups.check _ _ _ _ _ _ _ _ (show s.TypeIs (.ref a) "re.Match" from ⟨_, R.ifz _ _ h1, rfl⟩) (args_mat_groups _) ?_))
    unfold Builtin.«re.Match.groups» reWithDefault
    dsimp only
    refine wpAny_bind ?_
    refine wpAny_bind (wpAny_of_eq (a := [none]) (by kernel_rfl) ?_)
    dsimp only
    unfold reFound
    refine wpAny_bind (wpAny_bind (wpAny_fieldsOf (R.ifz _ _ h1) rfl (wpAny_bind ?_)))
    unfold reRawItems
    refine wpAny_bind (wpAny_seqItems (R.ifz _ _ h2) rfl (wpAny_pure (wpAny_pure (wpAny_pure ?_))))
    let XF : ReFound := { fields := #[.str x tx, u1, u2, u3, u4, .ref c], spans := Array.map reRawOf ((some arr2).getD #[]) }
    have hXs : XF.spans.size / 2 - 1 = sp.length := by
      show (Array.map reRawOf arr2).size / 2 - 1 = _
      rw [Array.size_map, hsz2]; omega
    have hget : ∀ i, XF.spans.getD i (-1) = ((.int i0 tk0 :: .int i1 tk :: k1 : List Value).map reRawOf).getD i (-1) := by
      intro i
      show (Array.map reRawOf arr2).getD i (-1) = _
      rw [← e1, Array.getD_eq_getD_getElem?, List.getD_eq_getElem?_getD, Array.getElem?_map, List.getElem?_map, Array.getElem?_toList]
    show wpAny _ _ (((List.range (XF.spans.size / 2 - 1)).mapM fun g => reGroupText XF (g + 1) .none) >>= fun vs => newTuple vs >>= fun v => ret v) _ _ _
    rw [hXs]
    refine wpAny_bind (wp_groups (fz := fz) (ρ := ρ) (x := x) (t := tx) (b := b) (sp := sp) (XF := XF) rfl hz (fun g hg => ?_) (List.range sp.length) (fun g hg => List.mem_range.mp hg) s _ fun vs tk2 hvs hlen => ?_)
    · have := sp_raw (fz := fz) (ρ := ρ) (b := b) (arr2 := arr2) sp k1 hsp g hg
      have q1 : 2 * (g + 1) = 2 * g + 1 + 1 := by omega
      rw [hget, hget, q1]
      simpa using this
    · have hmap : ((List.range sp.length).map fun g => grM x b (sp.getD g none)) = sp.map (grM x b) := by
        apply List.ext_getElem?
        intro i
        rw [List.getElem?_map, List.getElem?_map]
        by_cases hi : i < sp.length
        · rw [List.getElem?_range hi, List.getElem?_eq_getElem hi]; simp [hi]
        · rw [List.getElem?_eq_none (by simpa using hi), List.getElem?_eq_none (by simpa using hi)]; rfl
      rw [hmap] at hvs
      rw [List.length_range] at hlen
      refine wpAny_bind (wpAny_newTuple ?_ (by rw [hlen, sizeLine_eq]; omega))
      have hn1 : s.heap.get? s.heap.objs.size = none := none_of_size
      obtain ⟨hh, g, dr, t, os⟩ := s
      have R1 := R.new (h' := hh.push (tupO vs.toArray 0)) (tk := tk2) hn1 (fun _ _ e => Heap.get?_push_of_some _ e) (Heap.get?_push_size _ rfl)
      have g1 : Grow fz ρ _ ρ := grow_upd (o := tupO vs.toArray 0) (R.fz_none hn1)
      refine wpAny_pure (q _ _ _ _ R1 g1 ?_)
      simp only [VRel]
      exact ⟨_, _, rfl, upd_self .., VRels.grow g1 _ _ (by simpa using hvs)⟩
end
end Mine
end
section
open PySem PySem.W PySem.Calls PyProof.Rows
set_option linter.all false
set_option maxRecDepth 100000
namespace Mine
abbrev numCode' : Array Nat := #[14, 4, 0, 1, 4294967295, 17, 0, 24, 6, 0, 1, 16, 45, 1, 7, 5, 16, 48, 15, 22, 20, 13, 5, 22, 49, 57, 0, 24, 10, 0, 4294967295, 13, 5, 22, 48, 57, 0, 1, 15, 2, 0, 17, 1, 23, 20, 0, 1, 17, 2, 16, 46, 24, 10, 1, 4294967295, 13, 5, 22, 48, 57, 0, 1, 17, 3, 18, 23, 37, 0, 1, 17, 4, 13, 6, 16, 101, 16, 69, 0, 24, 11, 0, 1, 13, 6, 16, 45, 16, 43, 0, 1, 24, 10, 1, 4294967295, 13, 5, 22, 48, 57, 0, 1, 17, 5, 18, 1]
/-- the signs of a number -/
def digs (n : Int) : List Nat := if n < 0 then 45 :: (Nat.toDigits 10 n.natAbs).map Char.toNat else (Nat.toDigits 10 n.natAbs).map Char.toNat
theorem digs_is (n : Int) : (Str.ofString (toString n)).cps.toList = digs n := by
  unfold digs
  cases n with
  | ofNat m =>
    rw [if_neg (by simp)]
    exact KIN.signs_num m
  | negSucc m =>
    rw [if_pos (by omega), signs_ofString]
    show (("-" ++ Nat.repr (m + 1)) : String).toList.map Char.toNat = _
    rw [String.toList_append, Nat.toList_repr]
    rfl
def sumB : Option (Bool × Nat × Int × List (Option (Nat × Nat))) → Bool × Nat × Int × List (Option (Nat × Nat)) → Bool
  | some (a, b, c, e), (a', b', c', e') => a == a' && b == b' && c == c' && decide (e = e')
  | none, _ => false
theorem sumB_ok {o : Option (Bool × Nat × Int × List (Option (Nat × Nat)))} {v : Bool × Nat × Int × List (Option (Nat × Nat))} (h : sumB o v = true) : o = some v := by
  obtain ⟨a', b', c', e'⟩ := v
  cases o with
  | none => cases h
  | some q =>
    obtain ⟨a, b, c, e⟩ := q
    simp only [sumB, Bool.and_eq_true, beq_iff_eq, decide_eq_true_eq] at h
    obtain ⟨⟨⟨rfl, rfl⟩, rfl⟩, rfl⟩ := h
    rfl
/-- signs that a number's pattern does not tell apart -/
def rep (c : Nat) : Nat := if 49 ≤ c ∧ c ≤ 57 then 49 else if c = 93 ∨ c = 125 ∨ c = 32 ∨ c = 10 then 44 else c
abbrev numJ : List Nat := [11, 16, 21, 31, 49, 71]
theorem acc_rep {c j : Nat} (hj : j ∈ numJ) {s : Sre.Seen} : Sre.accepts numCode' j c s = Sre.accepts numCode' j (rep c) s := by
  unfold rep
  simp only [numJ, List.mem_cons, List.not_mem_nil, or_false] at hj
  split
  · rename_i h
    have : c = 49 ∨ c = 50 ∨ c = 51 ∨ c = 52 ∨ c = 53 ∨ c = 54 ∨ c = 55 ∨ c = 56 ∨ c = 57 := by omega
    rcases hj with rfl | rfl | rfl | rfl | rfl | rfl <;> rcases this with rfl | rfl | rfl | rfl | rfl | rfl | rfl | rfl | rfl <;> kernel_rfl
  · split
    · rename_i h
      rcases hj with rfl | rfl | rfl | rfl | rfl | rfl <;> rcases h with rfl | rfl | rfl | rfl <;> kernel_rfl
    · rfl
def shapeB (W : List Nat) : Bool := sumB (winSum numCode' numJ (W ++ [44]).toArray 3 false 30) (true, W.length, 1, [some (0, W.length), none, none]) && sumB (winSum numCode' numJ W.toArray 3 true 30) (true, W.length, 1, [some (0, W.length), none, none])
/-- a number that is read -/
structure NumOk (n : Int) : Prop where
  sh : shapeB ((digs n).map rep) = true
  rd : PySem.intText? (Str.ofString (toString n)) = some n
  len : (digs n).length ≤ 600
theorem Str.ext_list {a b : Str} (h : a.cps.toList = b.cps.toList) : a = b := by
  obtain ⟨⟨x⟩⟩ := a
  obtain ⟨⟨y⟩⟩ := b
  have h : x = y := h
  rw [h]
/-- the number n stands in a text at a place, and behind it a sign that ends it -/
structure NumAt (x : Str) (b : Nat) (n : Int) : Prop where
  at_ : ∀ i < (digs n).length, x.cps.getD (b + i) 0 = (digs n).getD i 0
  end_ : b + (digs n).length < x.length ∧ rep (x.cps.getD (b + (digs n).length) 0) = 44 ∨ b + (digs n).length = x.length
theorem NumAt.le {x : Str} {b : Nat} {n : Int} (h : NumAt x b n) : b + (digs n).length ≤ x.length := by
  rcases h.end_ with h | h <;> omega
theorem NumAt.win {x : Str} {b : Nat} {n : Int} (h : NumAt x b n) (h1 : b + (digs n).length < x.length) (h2 : rep (x.cps.getD (b + (digs n).length) 0) = 44) : Win numCode' numJ b x.cps x.length false ((digs n).map rep ++ [44]).toArray ((digs n).map rep ++ [44]).toArray.size where
  le := by
    simp; omega
  fin := fun e => nomatch e
  at_ := fun i hi j hj s => by
    have hi' : i < (digs n).length + 1 := by simpa using hi
    by_cases q : i < (digs n).length
    · have e : ((digs n).map rep ++ [44]).toArray.getD i 0 = rep (x.cps.getD (b + i) 0) := by
        rw [h.at_ i q]
        simp [Array.getD_eq_getD_getElem?, List.getElem?_append_left, q]
      rw [e]; exact acc_rep hj
    · have q' : i = (digs n).length := by omega
      subst q'
      have e : ((digs n).map rep ++ [44]).toArray.getD (digs n).length 0 = rep (x.cps.getD (b + (digs n).length) 0) := by
        rw [h2]
        simp [Array.getD_eq_getD_getElem?]
      rw [e]; exact acc_rep hj
theorem NumAt.winE {x : Str} {b : Nat} {n : Int} (h : NumAt x b n) (h1 : b + (digs n).length = x.length) : Win numCode' numJ b x.cps x.length true ((digs n).map rep).toArray ((digs n).map rep).toArray.size where
  le := by
    simp; omega
  fin := fun _ => by simp; omega
  at_ := fun i hi j hj s => by
    have q : i < (digs n).length := by simpa using hi
    have e : ((digs n).map rep).toArray.getD i 0 = rep (x.cps.getD (b + i) 0) := by
      rw [h.at_ i q]
      simp [Array.getD_eq_getD_getElem?, q]
    rw [e]; exact acc_rep hj
section
variable {X : SX} {env : Env} {d : Nat} {st st' : St}
abbrev numMat (x : Str) (p : Addr) (b : Nat) (n : Int) : MVal := matW x p b (digs n).length 1 [some (0, (digs n).length), none, none]
theorem AppE.num (XO : SXOk X) {f : MVal} {p : Addr} {x : Str} {b : Nat} {n : Int} (P : PatK X p numCode' 3) (hf : isMatchK X f p) (hz : x.length ≤ 10000000) (N : NumOk n) (h : NumAt x b n) :
    AppE X env d f [.str x, .int b] [] st (numMat x p b n) st := by
  have hs := N.sh
  unfold shapeB at hs
  rw [Bool.and_eq_true] at hs
  obtain ⟨hs1, hs2⟩ := hs
  have hs1 := sumB_ok hs1
  have hs2 := sumB_ok hs2
  rw [List.length_map] at hs1 hs2
  rcases h.end_ with ⟨h1, h2⟩ | h1
  · have := AppE.matchW (env := env) (d := d) (st := st) XO 30 P hf hz (by decide) (by decide) (h.win h1 h2) hs1
    rw [if_pos rfl] at this
    exact this
  · have := AppE.matchW (env := env) (d := d) (st := st) XO 30 P hf hz (by decide) (by decide) (h.winE h1) hs2
    rw [if_pos rfl] at this
    exact this
theorem AppE.numGroups {x : Str} {p : Addr} {b : Nat} {n : Int} (hz : x.length ≤ 10000000) (h : NumAt x b n) :
    AppE X env d (.obj (.builtin "re.Match.groups")) [numMat x p b n] [] st (.tup [.str (Str.ofString (toString n)), .none, .none]) st := by
  have := AppE.matGroups (X := X) (env := env) (d := d) (st := st) (x := x) (v1 := .obj (.ref p)) (v2 := .int b) (v3 := .int x.length) (v4 := .int 1) (i0 := b) (i1 := ((b + (digs n).length : Nat) : Int)) (b := b) (sp := [some (0, (digs n).length), none, none]) hz (by simp)
  have e : (⟨x.cps.extract (b + 0) (b + (digs n).length)⟩ : Str) = Str.ofString (toString n) := by
    refine Str.ext_list ?_
    rw [digs_is]
    have hl := h.le
    have hl' : b + (digs n).length ≤ x.cps.size := hl
    apply List.ext_getElem?
    intro i
    rw [Array.getElem?_toList, Array.getElem?_extract]
    by_cases q : i < (digs n).length
    · have h1 := h.at_ i q
      rw [if_pos (by omega)]
      rw [Array.getD_eq_getD_getElem?, List.getD_eq_getElem?_getD, List.getElem?_eq_getElem q] at h1
      rw [List.getElem?_eq_getElem q]
      rw [Array.getElem?_eq_getElem (by omega)] at h1
      rw [Array.getElem?_eq_getElem (by omega)]
      simpa using h1
    · rw [if_neg (by omega), List.getElem?_eq_none (by omega)]
  simp only [List.map_cons, List.map_nil, grM] at this
  rw [e] at this
  exact this
theorem AppE.numEnd {x : Str} {p : Addr} {b : Nat} {n : Int} : AppE X env d (.obj (.builtin "re.Match.end")) [numMat x p b n] [] st (.int ((b + (digs n).length : Nat) : Int)) st := .matEnd
/-- int(text) -/
theorem AppE.intT {x : Str} {n : Int} (h : PySem.intText? x = some n) (hl : x.length ≤ 640) : AppE X env d (.obj (.type "int")) [.str x] [] st (.int n) st :=
  fun A fz kp kg ρ s fv us kvs ok R hf hv hk Q E q => by
    have ek := kvs_nil hk; subst ek
    simp only [VRel] at hf; subst hf
    simp only [VRels, VRel] at hv
    obtain ⟨y, r, rfl, ⟨t, rfl⟩, rfl⟩ := hv
    exact KIN.call_text h hl (q _ _ _ _ (R.tk _) (.refl _ _) (by simp only [VRel]; exact ⟨_, rfl⟩))
theorem AppE.intN {n : Int} (N : NumOk n) : AppE X env d (.obj (.type "int")) [.str (Str.ofString (toString n))] [] st (.int n) st :=
  .intT N.rd (by
    have h := N.len
    have e : (Str.ofString (toString n)).length = (digs n).length := by rw [← digs_is]; rfl
    rw [e]; omega)
end
theorem numOk_of {n : Int} (l : List (List Nat)) (h0 : 0 ≤ n) (h1 : n < 10 ^ 10) (hl : l.all shapeB = true) (h : l.contains ((digs n).map rep) = true) : NumOk n where
  sh := List.all_eq_true.mp hl _ (List.contains_iff_mem.mp h)
  rd := KIN.num_reads h0 h1
  len := by
    have := KT.len_num h0 h1
    rw [← digs_is]
    have e : (Str.ofString (toString n)).cps.toList.length = (Str.ofString (toString n)).length := rfl
    rw [e]; omega
end Mine
end
section
open PySem PySem.W PySem.Calls PyProof.Rows
set_option linter.all false
set_option maxRecDepth 100000
namespace Mine
abbrev cApp (X : SX) (d : Nat) (f : MVal) (args : List MVal) (r : MVal) : Prop := ∀ (env : Env) (st : St), EnvOk env → AppE X env d f args [] st r st
abbrev cMt (X : SX) (d : Nat) (a : MVal) (n : Str) (f : MVal) (fs : List MVal) : Prop := ∀ (env : Env) (st : St), EnvOk env → MtE X env d a n st f fs st
section
variable {prog : Program} {w : World} {hb : Heap} {mg mb : Str → Option Value} {os : OsState} {d : Nat} {led : List MObj}
abbrev numC : List Nat := [45, 48, 49, 50, 51, 52, 53, 54, 55, 56, 57]
theorem scnNum0 (XO : SXOk (X0 prog w hb mg mb os)) {s : Str} {i : Nat} {n : Int} {v : MVal} {c : Nat} (hz : s.length ≤ 10000000) (hc : c ∈ numC) (h1 : s.cps[i]? = some c) (N : NumOk n) (h : NumAt s i n) (hpi : cApp (X0 prog w hb mg mb os) d piL [.str (intS n)] v) :
    Scn prog w hb mg mb os (d + 1) s i v (i + (digs n).length) := by
  obtain ⟨l1, _⟩ := Array.getElem?_eq_some_iff.mp h1
  have q1 : seqIndex? (i : Int) s.length = some i := seqIdx_nat l1
  have l1' : i < s.length := l1
  have P : PatK (X0 prog w hb mg mb os) a_NUMBER_RE numCode' 3 := patNum
  refine CallsTo.runC2 XO (gtok XO) 300 [.i i (.int c), .r (numMat s a_NUMBER_RE i n), .l [.obj (.builtin "re.Match.groups"), numMat s a_NUMBER_RE i n] [], .r (.tup [.str (intS n), .none, .none]), .r v, .l [.obj (.builtin "re.Match.end"), numMat s a_NUMBER_RE i n] [], .r (.int ((i + (digs n).length : Nat) : Int))] [("string", .arg 0), ("idx", .arg 1)] (.ret (.tup [v, .int ((i + (digs n).length : Nat) : Int)]))
    [cApp (X0 prog w hb mg mb os) d (.obj (.builtin "re.Match.end")) [numMat s a_NUMBER_RE i n] (.int ((i + (digs n).length : Nat) : Int)), cMt (X0 prog w hb mg mb os) d (numMat s a_NUMBER_RE i n) "end" (.obj (.builtin "re.Match.end")) [numMat s a_NUMBER_RE i n],
     cApp (X0 prog w hb mg mb os) d piL [.str (intS n)] v, cApp (X0 prog w hb mg mb os) d (.obj (.builtin "re.Match.groups")) [numMat s a_NUMBER_RE i n] (.tup [.str (intS n), .none, .none]), cMt (X0 prog w hb mg mb os) d (numMat s a_NUMBER_RE i n) "groups" (.obj (.builtin "re.Match.groups")) [numMat s a_NUMBER_RE i n],
     cApp (X0 prog w hb mg mb os) d (.bm "re.Pattern.match" (.obj (.ref a_NUMBER_RE))) [.str s, .int i] (numMat s a_NUMBER_RE i n), (i : Int) < 2 ^ 63, -(2 ^ 63) ≤ (i : Int), s.cps[i]? = some c, seqIndex? (i : Int) s.length = some i]
    (by intro _ _ _ _ _ v1 v2; show bindArgs _ _ = _; kernel_rfl) (by kernel_rfl) ?run ⟨fun _ _ _ => .numEnd, fun _ _ _ => .matEnd, hpi, fun _ _ _ => .numGroups hz h, fun _ _ _ => .matGroups, fun _ _ _ => .num XO P (.inr rfl) hz N h, by omega, by omega, h1, q1, trivial⟩ rfl
  case run =>
    simp only [numC, List.mem_cons, List.not_mem_nil, or_false] at hc
    rcases hc with rfl | rfl | rfl | rfl | rfl | rfl | rfl | rfl | rfl | rfl | rfl
    all_goals kernel_rfl
end
end Mine
end
section
open PySem PySem.W PySem.Calls PyProof.Rows
set_option linter.all false
set_option maxRecDepth 100000
namespace Mine
section
variable {prog : Program} {w : World} {hb : Heap} {mg mb : Str → Option Value} {os : OsState} {d : Nat} {led : List MObj}
/-- what stands behind a text: a sign that ends numbers, or nothing -/
def Ends (s : Str) (k : Nat) (t : List Nat) : Prop := (∃ c, rep c = 44 ∧ At s k (t ++ [c])) ∨ (At s k t ∧ k + t.length = s.length)
theorem Ends.at_ {s : Str} {k : Nat} {t : List Nat} (h : Ends s k t) : At s k t := by
  rcases h with ⟨c, _, h⟩ | ⟨h, _⟩
  · exact h.left
  · exact h
/-- a text of which a value is read -/
structure Rd (prog : Program) (w : World) (hb : Heap) (mg mb : Str → Option Value) (os : OsState) (d : Nat) (s : Str) (t : List Nat) (v : MVal) : Prop where
  head : ∃ c r, t = c :: r ∧ c ∈ okC
  rd : ∀ k, Ends s k t → Scn prog w hb mg mb os d s k v (k + t.length)
theorem Rd.mono {d d' : Nat} {s : Str} {t : List Nat} {v : MVal} (h : Rd prog w hb mg mb os d s t v) (hd : d ≤ d') : Rd prog w hb mg mb os d' s t v := ⟨h.head, fun k e => CallsTo.mono (h.rd k e) hd⟩
theorem digs_head {n : Int} : ∃ c r, digs n = c :: r ∧ c ∈ numC := by
  have hd : ∀ m : Nat, ∃ c r, (Nat.toDigits 10 m).map Char.toNat = c :: r ∧ 48 ≤ c ∧ c ≤ 57 := by
    intro m
    cases h : Nat.toDigits 10 m with
    | nil =>
      have := toDigits_len_ge 10 m
      rw [h] at this
      exact absurd this (by decide)
    | cons c r =>
      refine ⟨c.toNat, r.map Char.toNat, rfl, ?_⟩
      exact digit_range (Nat.isDigit_of_mem_toDigits (by decide) (by decide) (h ▸ List.mem_cons_self))
  unfold digs
  split
  · exact ⟨45, _, rfl, by decide⟩
  · obtain ⟨c, r, e, h1, h2⟩ := hd n.natAbs
    refine ⟨c, r, e, ?_⟩
    have : c = 48 ∨ c = 49 ∨ c = 50 ∨ c = 51 ∨ c = 52 ∨ c = 53 ∨ c = 54 ∨ c = 55 ∨ c = 56 ∨ c = 57 := by omega
    rcases this with rfl | rfl | rfl | rfl | rfl | rfl | rfl | rfl | rfl | rfl <;> decide
theorem NumAt.of {s : Str} {k : Nat} {n : Int} (h : Ends s k (digs n)) : NumAt s k n where
  at_ := fun i hi => h.at_.getD hi
  end_ := by
    rcases h with ⟨c, hc, h⟩ | ⟨_, h⟩
    · left
      have hl := h.le
      have hg := h.getD (j := (digs n).length) (by simp)
      rw [List.getD_eq_getElem?_getD, List.getElem?_append_right (Nat.le_refl _)] at hg
      simp only [List.length_append, List.length_cons, List.length_nil] at hl
      refine ⟨by omega, ?_⟩
      rw [hg]
      simpa using hc
    · exact .inr h
theorem Rd.num (XO : SXOk (X0 prog w hb mg mb os)) {s : Str} {n : Int} {v : MVal} (hz : s.length ≤ 10000000) (N : NumOk n) (hpi : cApp (X0 prog w hb mg mb os) d piL [.str (intS n)] v) : Rd prog w hb mg mb os (d + 1) s (digs n) v where
  head := by
    obtain ⟨c, r, e, h⟩ := digs_head (n := n)
    refine ⟨c, r, e, ?_⟩
    simp only [numC, List.mem_cons, List.not_mem_nil, or_false] at h
    rcases h with rfl | rfl | rfl | rfl | rfl | rfl | rfl | rfl | rfl | rfl | rfl <;> decide
  rd := fun k h => by
    obtain ⟨c, r, e, hc⟩ := digs_head (n := n)
    exact scnNum0 XO hz hc (by have := h.at_; rw [e] at this; exact this.get) N (.of h) hpi
theorem Rd.nil (XO : SXOk (X0 prog w hb mg mb os)) {s : Str} {r : MVal} (hz : s.length ≤ 10000000) (hk : Hk prog w hb mg mb os d [] r) : Rd prog w hb mg mb os (d + 2) s [91, 93] r where
  head := ⟨91, [93], rfl, by decide⟩
  rd := fun k h => scnArr (d := d + 1) XO hz h.at_.get (arr0 XO hz (At.right (a := [91]) h.at_).get hk)
theorem partsR {s : Str} {d : Nat} : ∀ (xs : List (List Nat × MVal)) (x : List Nat × MVal) (k : Nat), (∀ y ∈ x :: xs, Rd prog w hb mg mb os d s y.1 y.2) → At s k (x.1 ++ (sepT false (xs.map Prod.fst) ++ [93])) →
    PartsG (Scn prog w hb mg mb os d s) s k ((x :: xs).map Prod.snd) (k + (x.1 ++ (sepT false (xs.map Prod.fst) ++ [93])).length)
  | [], x, k, hP, h => by
    have e : k + (x.1 ++ (sepT false (([] : List (List Nat × MVal)).map Prod.fst) ++ [93])).length = k + x.1.length + 1 := by simp [sepT]; omega
    rw [e]
    have h' : At s k (x.1 ++ [93]) := h
    exact .last ((hP x List.mem_cons_self).rd k (.inl ⟨93, by decide, h'⟩)) h'.right.get
  | y :: ys, x, k, hP, h => by
    have e0 : sepT false ((y :: ys).map Prod.fst) ++ [93] = 44 :: 32 :: (y.1 ++ (sepT false (ys.map Prod.fst) ++ [93])) := by simp [sepT]
    rw [e0] at h
    have hx : At s k (x.1 ++ [44]) := by
      have : x.1 ++ 44 :: 32 :: (y.1 ++ (sepT false (ys.map Prod.fst) ++ [93])) = (x.1 ++ [44]) ++ (32 :: (y.1 ++ (sepT false (ys.map Prod.fst) ++ [93]))) := by simp
      rw [this] at h
      exact h.left
    have h1 := (hP x List.mem_cons_self).rd k (.inl ⟨44, by decide, hx⟩)
    have hr := h.right
    have a1 := hr.get
    have a2 := (At.right (a := [44]) hr).get
    have a3 := At.right (a := [44, 32]) hr
    obtain ⟨c, t, ht, hc⟩ := (hP y (List.mem_cons_of_mem _ List.mem_cons_self)).head
    have a4 : s.cps[k + x.1.length + 2]? = some c := by
      have := a3
      rw [ht] at this
      exact this.get
    have ih := partsR ys y (k + x.1.length + 2) (fun z hz => hP z (List.mem_cons_of_mem _ hz)) a3
    have e : k + (x.1 ++ (sepT false ((y :: ys).map Prod.fst) ++ [93])).length = k + x.1.length + 2 + (y.1 ++ (sepT false (ys.map Prod.fst) ++ [93])).length := by
      rw [List.length_append, e0]; simp only [List.length_cons]; omega
    rw [e]
    exact .next h1 a1 a2 hc a4 ih
theorem Rd.arr (XO : SXOk (X0 prog w hb mg mb os)) {s : Str} {x : List Nat × MVal} {xs : List (List Nat × MVal)} {r : MVal} (hz : s.length ≤ 10000000) (hn : xs.length < 1000) (hP : ∀ y ∈ x :: xs, Rd prog w hb mg mb os d s y.1 y.2) (hd : allData ((x :: xs).map Prod.snd) = true)
    (hk : Hk prog w hb mg mb os d ((x :: xs).map Prod.snd) r) : Rd prog w hb mg mb os (d + 2) s (91 :: (sepT true ((x :: xs).map Prod.fst) ++ [93])) r where
  head := ⟨91, _, rfl, by decide⟩
  rd := fun k h => by
    have e : (91 :: (sepT true ((x :: xs).map Prod.fst) ++ [93])) = 91 :: (x.1 ++ (sepT false (xs.map Prod.fst) ++ [93])) := by simp [sepT]
    rw [e] at h ⊢
    have ha := h.at_
    have ha1 := At.right (a := [91]) ha
    have hp := partsR xs x (k + 1) hP ha1
    obtain ⟨c, t, ht, hc⟩ := (hP x List.mem_cons_self).head
    have hcA : s.cps[k + 1]? = some c := by
      have := ha1
      rw [ht] at this
      exact this.get
    have hA := arrG (d := d) (i := k + 1) (j := k + 1 + (x.1 ++ (sepT false (xs.map Prod.fst) ++ [93])).length) (vs := (x :: xs).map Prod.snd) (r := r) XO hc hz hcA (datas_sh 15 _ hd).2 hk (fun env I => by
      have := loopG2 XO I (i := k + 1) hz hp [] (by simp; omega)
      rw [List.nil_append] at this
      exact this)
    have r := scnArr XO hz ha.get hA
    have e2 : k + (91 :: (x.1 ++ (sepT false (xs.map Prod.fst) ++ [93]))).length = k + 1 + (x.1 ++ (sepT false (xs.map Prod.fst) ++ [93])).length := by simp only [List.length_cons]; omega
    rw [e2]
    exact r
-- from_text of a value that begins with any sign
theorem wsNoneG (XO : SXOk (X0 prog w hb mg mb os)) {env : Env} (I : Is env (cxF fd_JSONDecoder_raw_from_text)) {s : Str} {c : Nat} (hc : c ∈ okC) (hz : s.length ≤ 10000000) (h : s.cps[0]? = some c) : EvE (X0 prog w hb mg mb os) env d wsE ⟨[("self", .insr a_JSONDecoder 0), ("s", .str s), ("idx", .int 0), ("_w", .obj df_JSONDecoder_raw_from_text_1), ("ord0", .int c)], [], LD DL⟩ (.int 0) ⟨[("self", .insr a_JSONDecoder 0), ("s", .str s), ("idx", .int 0), ("_w", .obj df_JSONDecoder_raw_from_text_1), ("ord0", .int c)], [], LD DL⟩ := by
  obtain ⟨l, e⟩ := Array.getElem?_eq_some_iff.mp h
  have l' : 0 < s.length := l
  refine EvE.wsEnd (f := .obj df_JSONDecoder_raw_from_text_1) XO patWs (.inl ⟨dfa_JSONDecoder_raw_from_text_1, rfl, by kernel_rfl⟩) (by kernel_rfl) ?_ ?_ ?_ (by omega) (by omega) hz (.inr ?_) (by kernel_rfl) (by kernel_rfl) (by kernel_rfl) (by kernel_rfl) (by kernel_rfl)
  · exact EvE.run XO (gtok XO) 5 [] [] (by kernel_rfl) trivial I
  · exact EvE.run XO (gtok XO) 5 [] [] (by kernel_rfl) trivial I
  · exact EvE.run XO (gtok XO) 5 [] [] (by kernel_rfl) trivial I
  · have : s.cps.getD (0 : Int).toNat 0 = c := by rw [Array.getD_eq_getD_getElem?]; simp [h]
    rw [this]
    simp only [okC, List.mem_cons, List.not_mem_nil, or_false] at hc
    rcases hc with rfl | rfl | rfl | rfl | rfl | rfl | rfl | rfl | rfl | rfl | rfl | rfl | rfl | rfl | rfl | rfl | rfl <;> rfl
theorem rawFromG (XO : SXOk (X0 prog w hb mg mb os)) {s : Str} {j c : Nat} {v : MVal} (hc : c ∈ okC) (hz : s.length ≤ 10000000) (h0 : s.cps[0]? = some c) (h : Scn prog w hb mg mb os d s 0 v j) :
    CallsTo (X0 prog w hb mg mb os) (d + 2) (.obj (.ref a_JSONDecoder_raw_from_text)) [.insr a_JSONDecoder 0, .str s] [] (LD DL) (.tup [v, .int j]) (LD DL) := by
  obtain ⟨l, e⟩ := Array.getElem?_eq_some_iff.mp h0
  have l' : 0 < s.length := l
  refine CallsTo.run2 XO (gtok XO) 300 [.a, .b true, .i 0 (.int c), .e wsE.pos (.int 0) ⟨[("self", .insr a_JSONDecoder 0), ("s", .str s), ("idx", .int 0), ("_w", .obj df_JSONDecoder_raw_from_text_1), ("ord0", .int c)], [], LD DL⟩, .v (.tup [v, .int j]) (LD DL)] tmRaw (.ret (.tup [v, .int j]))
    [CallsTo (X0 prog w hb mg mb os) (d + 1) (.clo FSN csSN) [.str s] [("idx", .int ((0 : Nat) : Int))] (LD DL) (.tup [v, .int j]) (LD DL), ∀ env, Is env (cxF fd_JSONDecoder_raw_from_text) → EvE (X0 prog w hb mg mb os) env (d + 1) wsE ⟨[("self", .insr a_JSONDecoder 0), ("s", .str s), ("idx", .int 0), ("_w", .obj df_JSONDecoder_raw_from_text_1), ("ord0", .int c)], [], LD DL⟩ (.int 0) ⟨[("self", .insr a_JSONDecoder 0), ("s", .str s), ("idx", .int 0), ("_w", .obj df_JSONDecoder_raw_from_text_1), ("ord0", .int c)], [], LD DL⟩, hdd (.clo FSN csSN),
      (0 : Int) < 2 ^ 63, -(2 ^ 63) ≤ (0 : Int), s.cps[0]? = some c, seqIndex? (0 : Int) s.length = some 0, decide ((s.length : Int) > 0) = true, s.length ≤ 10000000]
    ok_JSONDecoder_raw_from_text (by intro a b S; kernel_rfl) (by kernel_rfl) ?run ⟨scanOnce XO h, fun env I => wsNoneG XO I hc hz h0, rfl, by omega, by omega, h0, seqIdx_nat (i := 0) l', by simp; omega, hz, trivial⟩ rfl
  case run =>
    simp only [okC, List.mem_cons, List.not_mem_nil, or_false] at hc
    rcases hc with rfl | rfl | rfl | rfl | rfl | rfl | rfl | rfl | rfl | rfl | rfl | rfl | rfl | rfl | rfl | rfl | rfl
    all_goals kernel_rfl
/-- from_text of a whole text -/
theorem Rd.from (XO : SXOk (X0 prog w hb mg mb os)) {s : Str} {t : List Nat} {v : MVal} (hz : s.length ≤ 10000000) (ht : s.cps.toList = t) (h : Rd prog w hb mg mb os d s t v) :
    CallsTo (X0 prog w hb mg mb os) (d + 3) (.obj (.ref a_JSONDecoder_from_text)) [.insr a_JSONDecoder 0, .str s] [] (LD DL) v (LD DL) := by
  obtain ⟨c, r, e, hc⟩ := h.head
  have hl : s.length = t.length := by rw [← ht]; rfl
  have ha := At.whole ht
  have h0 : s.cps[0]? = some c := by rw [e] at ha; exact ha.get
  have k := h.rd 0 (.inr ⟨ha, by omega⟩)
  rw [Nat.zero_add, ← hl] at k
  exact CallsTo.run2 XO (gtok XO) 300 [.v (.tup [v, .int s.length]) (LD DL), .e wsF.pos (.int s.length) (stFrom s s.length v), .b false] tmFrom (.ret v)
    [((s.length : Int) != s.length) = false, s.length ≤ 10000000, ∀ env, Is env (cxF fd_JSONDecoder_from_text) → EvE (X0 prog w hb mg mb os) env (d + 2) wsF (stFrom s s.length v) (.int s.length) (stFrom s s.length v),
      CallsTo (X0 prog w hb mg mb os) (d + 2) (.obj (.ref a_JSONDecoder_raw_from_text)) [.insr a_JSONDecoder 0, .str s] [] (LD DL) (.tup [v, .int s.length]) (LD DL)]
    ok_JSONDecoder_from_text (by intro a b S; kernel_rfl) (by kernel_rfl) (by kernel_rfl) ⟨by simp, hz, fun env I => wsLast XO I hz, rawFromG XO hc hz h0 k, trivial⟩ rfl
end
end Mine
end
section
open PySem PySem.W PySem.Calls PyProof.Rows
set_option linter.all false
set_option maxRecDepth 100000
namespace Mine
section
variable {X : SX} {env cenv : Env} {d : Nat} {st st' st₁ st₂ st₃ : St} {fz kp : FH} {kg : Nat → Option GenState} {ρ : List Addr} {led led' : List MObj} {s : Shared} {A : Around}
/-- a comprehension of several clauses, item by item -/
inductive CompM (X : SX) (env : Env) (d : Nat) (elt : PySem.Expr) : List Comprehension → List MVal → St → List MVal → St → Prop
  | nil {gs : List Comprehension} {a : St} : CompM X env d elt gs [] a [] a
  | skip {g : Comprehension} {gs : List Comprehension} {x : MVal} {r ys : List MVal} {a b c e : St} : StoreE X env d g.target x a b → TestsE X env d g.ifs b false c → CompM X env d elt (g :: gs) r c ys e → CompM X env d elt (g :: gs) (x :: r) a ys e
  | elt {g : Comprehension} {x y : MVal} {r ys : List MVal} {a b c c' e : St} : StoreE X env d g.target x a b → TestsE X env d g.ifs b true c → EvE X env d elt c y c' → CompM X env d elt [g] r c' ys e → CompM X env d elt [g] (x :: r) a (y :: ys) e
  | inner {g g' : Comprehension} {gs : List Comprehension} {x v : MVal} {r xs ys zs : List MVal} {a b c c1 c2 e : St} : StoreE X env d g.target x a b → TestsE X env d g.ifs b true c → EvE X env d g'.iter c v c1 → IterE X env d v xs c1 → (∀ u, foldedSetIterable g'.iter env u = pure u) →
      CompM X env d elt (g' :: gs) xs c1 zs c2 → CompM X env d elt (g :: g' :: gs) r c2 ys e → CompM X env d elt (g :: g' :: gs) (x :: r) a (zs ++ ys) e
  | weak {gs : List Comprehension} {r ys : List MVal} {a a' e : St} : Sub a' a → CompM X env d elt gs r a' ys e → CompM X env d elt gs r a ys e

theorem compTurn_last {elt : PySem.Expr} {gens : List Comprehension} {scope : Scope} {pos : Pos} {it acc : Value} {env : Env} {k : Nat} {g : Comprehension} (hk : gens[k]? = some g) (h0 : g.is_async = 0) (hk1 : gens[k + 1]? = none) :
    compTurn (.ListComp elt gens scope pos) k it acc env = (do
      standAt g.iter.pos
      match ← pyNext it with
      | none => pure (.done .next)
      | some v =>
        letOwnedTupleGo g.target it v
        PySem.assign g.target env v
        let mut ok := true
        for c in g.ifs do
          if ok then ok ← isTrue c env (eval c env)
        if ok then
          (do let _ ← call (.builtin "list.append") [acc, ← eval elt env])
        again (.compLoop (.ListComp elt gens scope pos) k it acc env)) := by
  unfold compTurn
  dsimp only
  rw [hk]
  dsimp only
  have e : (g.is_async != 0) = false := by rw [h0]; rfl
  rw [e, hk1]
  simp only [Bool.false_eq_true, if_false]
  rfl
theorem compTurn_more {elt : PySem.Expr} {gens : List Comprehension} {scope : Scope} {pos : Pos} {it acc : Value} {env : Env} {k : Nat} {g g' : Comprehension} (hk : gens[k]? = some g) (h0 : g.is_async = 0) (hk1 : gens[k + 1]? = some g') (h1 : g'.is_async = 0) :
    compTurn (.ListComp elt gens scope pos) k it acc env = (do
      standAt g.iter.pos
      match ← pyNext it with
      | none => pure (.done .next)
      | some v =>
        letOwnedTupleGo g.target it v
        PySem.assign g.target env v
        let mut ok := true
        for c in g.ifs do
          if ok then ok ← isTrue c env (eval c env)
        if ok then
          let x ← eval g'.iter env
          standAt g'.iter.pos
          let x ← foldedSetIterable g'.iter env x
          let _ ← runOwn (.compStart (.ListComp elt gens scope pos) (k + 1) (← holding [x] (pyIter x)) acc env) env
        again (.compLoop (.ListComp elt gens scope pos) k it acc env)) := by
  unfold compTurn
  dsimp only
  rw [hk]
  dsimp only
  have e : (g.is_async != 0) = false := by rw [h0]; rfl
  have e1 : (g'.is_async != 0) = false := by rw [h1]; rfl
  rw [e, hk1]
  simp only [e1, Bool.false_eq_true, if_false]
  first | rfl | skip
theorem codeAny_compStartM {elt : PySem.Expr} {gens : List Comprehension} {scope : Scope} {pos : Pos} {it acc : Value} {env : Env} {k : Nat} {g : Comprehension} {prog : Program} {w : World} {R : Result → Shared → Prop} (hk : gens[k]? = some g) (hg : g.is_async = 0)
    (h0 : codeAny (model prog w) A (.compLoop (.ListComp elt gens scope pos) k it acc env) R s)
    (h : wpAny (model prog w) A (pyIter it) (fun it' s' => codeAny (model prog w) A (.compLoop (.ListComp elt gens scope pos) k it' acc env) R s') (notedBy (model prog w) A env fun x s' => R (.error x) s') s) :
    codeAny (model prog w) A (.compStart (.ListComp elt gens scope pos) k it acc env) R s := by
  refine codeAny_of_tree ?_
  rw [Around.under_of_weight (by rfl) (by rfl)]
  show wpAny _ _ ((compStart (.ListComp elt gens scope pos) k it acc env).onRaise (fun x => do noteFrame x env; standAt theWindowsPlace)) _ _ s
  refine wpAny_notedAt ?_
  unfold compStart
  have e : ((clausesOf (.ListComp elt gens scope pos))[k]?).elim false (·.is_async != 0) = false := by
    show ((gens[k]?).elim false (·.is_async != 0)) = false
    rw [hk]
    show (g.is_async != 0) = false
    rw [hg]; rfl
  rw [e]
  simp only [Bool.false_eq_true, if_false]
  refine wpAny_bind (wpAny_askSetting (wpAny_ite ?_))
  have ek : (clausesOf (.ListComp elt gens scope pos))[k]? = some g := hk
  rw [ek]
  split
  · first
      | exact wpAny_bind (wpAny_pure (wpAny_pure (And.intro rfl h0)))
      | exact wpAny_pure (And.intro rfl h0)
  · first
      | exact wpAny_bind (wpAny_rule (wpAny_bind (wpAny_standAt (wpAny_bind (wpAny_mono h (fun it' s' h' => wpAny_pure (And.intro rfl h')) fun _ _ x => x)))))
      | (refine wpAny_bind (wpAny_rule ?_); show wpAny _ _ (standAt g.iter.pos >>= _) _ _ s; exact wpAny_bind (wpAny_standAt (wpAny_bind (wpAny_mono h (fun it' s' h' => wpAny_pure (And.intro rfl h')) fun _ _ x => x))))
theorem AOk.mark0 (ok : AOk A d) : AOk (A.mark none) d := ok
theorem CompM.code {elt : PySem.Expr} {gens gs : List Comprehension} {scope : Scope} {pos : Pos} {xs ys : List MVal} (hsy : ∀ g ∈ gens, g.is_async = 0) (h : CompM X cenv d elt gs xs st ys st') :
    ∀ {A fz kp kg ρ s I o D arr ep done k g rest} (R : Result → Shared → Prop), gs = g :: rest → gens.drop k = gs → AOk A d → Rel X cenv fz kp kg ρ st s → Apart X cenv fz kp ρ I → s.heap.get? I = some o → IterRel fz ρ xs o →
      Apart X cenv fz kp ρ D → D ≠ I → s.heap.get? D = some (lstO arr ep) → VRels fz ρ done arr.toList → done.length + ys.length ≤ 10000000 →
      (∀ fz' ρ' s' arr' ep', Rel X cenv fz' kp kg ρ' st' s' → Grow fz ρ fz' ρ' → Apart X cenv fz' kp ρ' D → s'.heap.get? D = some (lstO arr' ep') → VRels fz' ρ' (done ++ ys) arr'.toList → R (.ok .next) s') →
      codeAny (model X.prog X.w) A (.compLoop (.ListComp elt gens scope pos) k (.ref I) (.ref D) cenv) R s := by
  have dk : ∀ {k : Nat} {g : Comprehension} {r : List Comprehension}, gens.drop k = g :: r → gens[k]? = some g ∧ gens[k + 1]? = r.head? ∧ gens.drop (k + 1) = r ∧ g.is_async = 0 := by
    intro k g r e
    have h1 : gens[k]? = some g := by rw [← List.head?_drop, e]; rfl
    have h2 : gens.drop (k + 1) = r := by rw [← List.tail_drop, e]; rfl
    exact ⟨h1, by rw [← List.head?_drop, h2], h2, hsy _ (List.mem_of_getElem? h1)⟩
  induction h with
  | nil =>
    intro A fz kp kg ρ s I o D arr ep done k g rest Rz eg hd ok R a hI hit aD hne hD hdone hz q
    subst eg
    obtain ⟨k1, k2, k3, k4⟩ := dk hd
    refine codeAny_of_tree ?_
    rw [Around.under_of_weight (by rfl) (by rfl)]
    show wpAny _ A ((compTurn (.ListComp elt gens scope pos) k (.ref I) (.ref D) cenv).onRaise (fun x => do noteFrame x cenv; theTreesLotGoes x)) _ _ s
    refine wpAny_onRaise ?_
    cases hr : rest.head? with
    | none =>
      rw [hr] at k2
      rw [compTurn_last k1 k4 k2]
      refine wpAny_bind (wpAny_standAt (wpAny_bind (next_nil ok.h R.toLRel hI hit fun h' hx => ?_)))
      exact wpAny_pure (q _ _ _ _ _ (R.ext (tk := s.toks) a hx) (.refl _ _) aD (hx _ _ hne hD) (by simpa using hdone))
    | some g' =>
      rw [hr] at k2
      rw [compTurn_more k1 k4 k2 (hsy _ (List.mem_of_getElem? k2))]
      refine wpAny_bind (wpAny_standAt (wpAny_bind (next_nil ok.h R.toLRel hI hit fun h' hx => ?_)))
      exact wpAny_pure (q _ _ _ _ _ (R.ext (tk := s.toks) a hx) (.refl _ _) aD (hx _ _ hne hD) (by simpa using hdone))
  | weak hs h ih => exact fun Rz eg hd ok R a hI hit aD hne hD hdone hz q => ih Rz eg hd ok (R.sub hs) a hI hit aD hne hD hdone hz q
  | @skip g0 gs0 x0 r0 ys0 a0 b0 c0 e0 h1 h2 h3 ih =>
    intro A fz kp kg ρ s I o D arr ep done k g rest Rz eg hd ok R a hI hit aD hne hD hdone hz q
    cases eg
    obtain ⟨k1, k2, k3, k4⟩ := dk hd
    refine codeAny_of_tree ?_
    rw [Around.under_of_weight (by rfl) (by rfl)]
    show wpAny _ A ((compTurn (.ListComp elt gens scope pos) k (.ref I) (.ref D) cenv).onRaise (fun x => do noteFrame x cenv; theTreesLotGoes x)) _ _ s
    refine wpAny_onRaise ?_
    cases hr : gs0.head? with
    | none =>
      rw [hr] at k2
      rw [compTurn_last k1 k4 k2]
      refine wpAny_bind (wpAny_standAt (wpAny_bind (next_cons R.toLRel hI hit fun h' tk u o' hs ho hit' hu => ?_)))
      refine wpAny_bind (owned_go (s := { s with heap := h', toks := tk }) ho hit' ?_)
      have hD' : h'.get? D = some (lstO arr ep) := (hs.2 _ hne).trans hD
      have R₁ := ((R.same (tk := tk) a hs).put a ho).put (aD.put hne) hD'
      refine wpAny_bind (h1 A fz _ kg ρ _ u ok R₁ hu _ _ fun fz₂ ρ₂ _ s₂ R₂ g₂ _ => ?_)
      refine wpAny_bind (h2.wp A fz₂ _ kg ρ₂ s₂ ok R₂ _ _ fun fz₃ ρ₃ b s₃ R₃ g₃ hb => ?_)
      subst hb
      obtain ⟨R₄, aD₄, hD₄⟩ := R₃.unput (aD.put hne).kp
      obtain ⟨R₅, a₅, hI₅⟩ := R₄.unput a.kp
      have aD₅ : Apart X cenv fz₃ kp ρ₃ D := ⟨aD₄.fz, aD.kp, aD₄.ρ, aD₄.tab, aD₄.L⟩
      exact wpAny_pure ⟨rfl, ih Rz rfl hd ok R₅ a₅ hI₅ (hit'.grow (g₂.trans g₃)) aD₅ hne hD₄ (VRels.grow (g₂.trans g₃) _ _ hdone) hz fun fz' ρ' s' arr' ep' R' g' aD' hD' hv' => q _ _ _ _ _ R' ((g₂.trans g₃).trans g') aD' hD' hv'⟩
    | some g' =>
      rw [hr] at k2
      rw [compTurn_more k1 k4 k2 (hsy _ (List.mem_of_getElem? k2))]
      refine wpAny_bind (wpAny_standAt (wpAny_bind (next_cons R.toLRel hI hit fun h' tk u o' hs ho hit' hu => ?_)))
      refine wpAny_bind (owned_go (s := { s with heap := h', toks := tk }) ho hit' ?_)
      have hD' : h'.get? D = some (lstO arr ep) := (hs.2 _ hne).trans hD
      have R₁ := ((R.same (tk := tk) a hs).put a ho).put (aD.put hne) hD'
      refine wpAny_bind (h1 A fz _ kg ρ _ u ok R₁ hu _ _ fun fz₂ ρ₂ _ s₂ R₂ g₂ _ => ?_)
      refine wpAny_bind (h2.wp A fz₂ _ kg ρ₂ s₂ ok R₂ _ _ fun fz₃ ρ₃ b s₃ R₃ g₃ hb => ?_)
      subst hb
      obtain ⟨R₄, aD₄, hD₄⟩ := R₃.unput (aD.put hne).kp
      obtain ⟨R₅, a₅, hI₅⟩ := R₄.unput a.kp
      have aD₅ : Apart X cenv fz₃ kp ρ₃ D := ⟨aD₄.fz, aD.kp, aD₄.ρ, aD₄.tab, aD₄.L⟩
      exact wpAny_pure ⟨rfl, ih Rz rfl hd ok R₅ a₅ hI₅ (hit'.grow (g₂.trans g₃)) aD₅ hne hD₄ (VRels.grow (g₂.trans g₃) _ _ hdone) hz fun fz' ρ' s' arr' ep' R' g' aD' hD' hv' => q _ _ _ _ _ R' ((g₂.trans g₃).trans g') aD' hD' hv'⟩
  | elt h1 h2 h3 h4 ih =>
    intro A fz kp kg ρ s I o D arr ep done k g rest Rz eg hd ok R a hI hit aD hne hD hdone hz q
    cases eg
    obtain ⟨k1, k2, k3, k4⟩ := dk hd
    refine codeAny_of_tree ?_
    rw [Around.under_of_weight (by rfl) (by rfl)]
    show wpAny _ A ((compTurn (.ListComp elt gens scope pos) k (.ref I) (.ref D) cenv).onRaise (fun x => do noteFrame x cenv; theTreesLotGoes x)) _ _ s
    refine wpAny_onRaise ?_
    rw [compTurn_last k1 k4 k2]
    refine wpAny_bind (wpAny_standAt (wpAny_bind (next_cons R.toLRel hI hit fun h' tk u o' hs ho hit' hu => ?_)))
    refine wpAny_bind (owned_go (s := { s with heap := h', toks := tk }) ho hit' ?_)
    have hD' : h'.get? D = some (lstO arr ep) := (hs.2 _ hne).trans hD
    have R₁ := ((R.same (tk := tk) a hs).put a ho).put (aD.put hne) hD'
    refine wpAny_bind (h1 A fz _ kg ρ _ u ok R₁ hu _ _ fun fz₂ ρ₂ _ s₂ R₂ g₂ _ => ?_)
    refine wpAny_bind (h2.wp A fz₂ _ kg ρ₂ s₂ ok R₂ _ _ fun fz₃ ρ₃ b s₃ R₃ g₃ hb => ?_)
    subst hb
    refine wpAny_bind (wpAny_bind (h3 A fz₃ _ kg ρ₃ s₃ ok R₃ _ _ fun fz₄ ρ₄ y s₄ R₄ g₄ hy => wpAny_bind ?_))
    obtain ⟨R₅, aD₅, hD₅⟩ := R₄.unput (aD.put hne).kp
    have g := (g₂.trans g₃).trans g₄
    have hdone' := VRels.grow g _ _ hdone
    have hsz : arr.size = done.length := by simpa using VRels.length hdone
    refine wpAny_list_append_plain (items := arr) ⟨ep, hD₅⟩ (fun h₆ ⟨n, hp⟩ hs₆ => wpAny_pure (wpAny_pure ⟨rfl, ?_⟩)) (by rw [sizeLine_eq]; simp only [List.length_cons] at hz; omega)
    obtain ⟨R₇, a₇, hI₇⟩ := (R₅.same (tk := s₄.toks) aD₅ hs₆).unput a.kp
    have aD₇ : Apart X cenv fz₄ kp ρ₄ D := ⟨aD₅.fz, aD.kp, aD₅.ρ, aD₅.tab, aD₅.L⟩
    refine ih Rz rfl hd ok R₇ a₇ hI₇ (hit'.grow g) aD₇ hne hp (done := done ++ [_]) ?_ (by simp only [List.length_append, List.length_cons, List.length_nil] at hz ⊢; omega) fun fz' ρ' s' arr' ep' R' g' aD' hD' hv' => q _ _ _ _ _ R' (g.trans g') aD' hD' (by simpa using hv')
    rw [Array.toList_push]
    exact VRels.append hdone' (by simp only [VRels]; exact ⟨_, _, rfl, hy, rfl⟩)
  | @inner g0 g1 gs0 x0 v0 r0 xs0 ys0 zs0 a0 b0 c0 c1 c2 e0 h1 h2 h3 h4 hfold h5 h6 ih5 ih6 =>
    intro A fz kp kg ρ s I o D arr ep done k g rest Rz eg hd ok R a hI hit aD hne hD hdone hz q
    cases eg
    obtain ⟨k1, k2, k3, k4⟩ := dk hd
    have k5 := hsy _ (List.mem_of_getElem? k2)
    refine codeAny_of_tree ?_
    rw [Around.under_of_weight (by rfl) (by rfl)]
    show wpAny _ A ((compTurn (.ListComp elt gens scope pos) k (.ref I) (.ref D) cenv).onRaise (fun x => do noteFrame x cenv; theTreesLotGoes x)) _ _ s
    refine wpAny_onRaise ?_
    rw [compTurn_more k1 k4 k2 k5]
    refine wpAny_bind (wpAny_standAt (wpAny_bind (next_cons R.toLRel hI hit fun h' tk u o' hs ho hit' hu => ?_)))
    refine wpAny_bind (owned_go (s := { s with heap := h', toks := tk }) ho hit' ?_)
    have hD' : h'.get? D = some (lstO arr ep) := (hs.2 _ hne).trans hD
    have R₁ := ((R.same (tk := tk) a hs).put a ho).put (aD.put hne) hD'
    refine wpAny_bind (h1 A fz _ kg ρ _ u ok R₁ hu _ _ fun fz₂ ρ₂ _ s₂ R₂ g₂ _ => ?_)
    refine wpAny_bind (h2.wp A fz₂ _ kg ρ₂ s₂ ok R₂ _ _ fun fz₃ ρ₃ b s₃ R₃ g₃ hb => ?_)
    subst hb
    refine wpAny_bind (h3 A fz₃ _ kg ρ₃ s₃ ok R₃ _ _ fun fz₄ ρ₄ v s₄ R₄ g₄ hv => ?_)
    refine wpAny_bind (wpAny_standAt (wpAny_bind (wpAny_of_eq (hfold v) ?_)))
    refine wpAny_bind (wpAny_holding (h4 A fz₄ _ kg ρ₄ s₄ v _ _ ok R₄ hv fun I' oi h'' tk' hn' hk' hI' hit'' => ?_))
    have R₄' := R₄.keep (h' := h'') (tk := tk') hk'
    have aI' : Apart X cenv fz₄ (keepAt (keepAt kp I o') D (lstO arr ep)) ρ₄ I' := Apart.new R₄ hn'
    obtain ⟨R₅, aD₅, hD₅⟩ := R₄'.unput (aD.put hne).kp
    have hDI' : D ≠ I' := fun e => by
      have := aI'.kp
      rw [← e] at this
      simp [keepAt] at this
    have aI'' : Apart X cenv fz₄ (keepAt kp I o') ρ₄ I' := ⟨aI'.fz, by
      have := aI'.kp
      unfold keepAt at this
      rw [if_neg (Ne.symm hDI')] at this
      exact this, aI'.ρ, aI'.tab, aI'.L⟩
    have g := (g₂.trans g₃).trans g₄
    have hdone' := VRels.grow g _ _ hdone
    refine wpAny_bind (wpAny_runOwn ?_)
    have cont : ∀ Rz' : Result → Shared → Prop, (∀ fz' ρ' s' arr' ep', Rel X cenv fz' (keepAt kp I o') kg ρ' c2 s' → Grow fz₄ ρ₄ fz' ρ' → Apart X cenv fz' (keepAt kp I o') ρ' D → s'.heap.get? D = some (lstO arr' ep') → VRels fz' ρ' (done ++ zs0) arr'.toList → Rz' (.ok .next) s') → codeAny (model X.prog X.w) (A.mark none) (.compLoop (.ListComp elt gens scope pos) (k + 1) (.ref I') (.ref D) cenv) Rz' { s₄ with heap := h'', toks := tk' } :=
      fun Rz' hq => ih5 (A := A.mark none) (done := done) Rz' rfl k3 ok R₅ aI'' hI' hit'' aD₅ hDI' hD₅ hdone' (by simp only [List.length_append] at hz; omega) hq
    have post : ∀ fz' ρ' s' arr' ep', Rel X cenv fz' (keepAt kp I o') kg ρ' c2 s' → Grow fz₄ ρ₄ fz' ρ' → Apart X cenv fz' (keepAt kp I o') ρ' D → s'.heap.get? D = some (lstO arr' ep') → VRels fz' ρ' (done ++ zs0) arr'.toList → codeAny (model X.prog X.w) A (.compLoop (.ListComp elt gens scope pos) k (.ref I) (.ref D) cenv) Rz s' := by
      intro fz' ρ' s' arr' ep' R' g' aD' hD' hv'
      obtain ⟨R₆, a₆, hI₆⟩ := R'.unput a.kp
      have aD₆ : Apart X cenv fz' kp ρ' D := ⟨aD'.fz, aD.kp, aD'.ρ, aD'.tab, aD'.L⟩
      exact ih6 (done := done ++ zs0) Rz rfl hd ok R₆ a₆ hI₆ (hit'.grow (g.trans g')) aD₆ hne hD' hv' (by simp only [List.length_append] at hz ⊢; omega) fun fz' ρ' s' arr' ep' R' g'' aD' hD' hv' => q _ _ _ _ _ R' ((g.trans g').trans g'') aD' hD' (by simpa using hv')
    exact codeAny_compStartM k2 k5 (cont _ fun fz' ρ' s' arr' ep' R' g' aD' hD' hv' => wpAny_pure ⟨rfl, post fz' ρ' s' arr' ep' R' g' aD' hD' hv'⟩) (IterRel.self R₅.toLRel hI' hit'' (cont _ fun fz' ρ' s' arr' ep' R' g' aD' hD' hv' => wpAny_pure ⟨rfl, post fz' ρ' s' arr' ep' R' g' aD' hD' hv'⟩))
end
end Mine
end
section
open PySem PySem.W PySem.Calls PyProof.Rows
set_option linter.all false
set_option maxRecDepth 100000
namespace Mine
section
variable {X : SX} {env cenv : Env} {d : Nat} {st st' st₁ st₂ st₃ : St} {fz kp : FH} {kg : Nat → Option GenState} {ρ : List Addr} {led led' : List MObj} {s : Shared} {A : Around}
/-- a list comprehension with one «for»: its list is frozen -/
theorem EvE.listcompM {elt target iter : PySem.Expr} {ifs : List PySem.Expr} {gs : List Comprehension} {scope : Scope} {pos : Pos} {v : MVal} {xs ys : List MVal} {cs : List (Str × Nat)} (O : EnvOk env) (h1 : EvE X env d iter st v st₁) (h2 : IterE X env d v xs st₁)
    (hcs : csOf st.cells scope.names [] = some cs) (h3 : ∀ C cl, ∃ st₂, CompM X (compEnvC scope cl C env) d elt (⟨target, iter, ifs, 0⟩ :: gs) xs ⟨[], cs, st₁.led⟩ ys st₂ ∧ st₂.led = led') (hsy : ∀ g ∈ gs, g.is_async = 0) (hz : ys.length ≤ 10000000 := by simp)
    (hkind : scope.kind = .function := by rfl) (hcell : (scope.names.all fun x => x.2 != .cell) = true := by rfl) (hnm : (scope.names.all fun x => x.2 != .local || decide (scope.names.lookup x.1 = some .local)) = true := by rfl)
    (hs : ∀ x, foldedSetIterable iter env x = pure x := by intro _; rfl) :
    EvE X env d (.ListComp elt (⟨target, iter, ifs, 0⟩ :: gs) scope pos) st (.lst ys) { st₁ with led := led' } :=
  fun A fz kp kg ρ s ok R Q E q => by
    have hcell' : ∀ x ∈ scope.names, x.2 ≠ .cell := fun x hx e => by
      have := List.all_eq_true.mp hcell x hx
      rw [e] at this
      exact absurd this (by decide)
    have hnames : ∀ x ∈ scope.names, x.2 = .local → scope.names.lookup x.1 = some .local := fun x hx e => by
      have := List.all_eq_true.mp hnm x hx
      rw [e] at this
      simpa using this
    rw [eval_ListComp]
    show wpAny _ A (comprehension (.ListComp elt (⟨target, iter, ifs, 0⟩ :: gs) scope pos) scope env (firstIterPos (⟨target, iter, ifs, 0⟩ :: gs) pos) (newList []) false (eval iter env) none) Q E s
    obtain ⟨cl, e1, hcr⟩ := R.clos scope.names [] [] cs rfl hcs
    refine wpAny_comprehension_free (use := none) rfl hs (closureFor_is e1) hkind hnames (h1 A fz kp kg ρ s ok R _ _ fun fz₁ ρ₁ va s₁ R₁ g₁ r₁ => h2 A fz₁ kp kg ρ₁ s₁ va _ _ ok R₁ r₁ fun I o h' tk hn hk hI hit => ?_)
    -- the new list
    refine wpAny_newObj_type (wpAny_newFunctionEnv hcell' (by intro y hy; simp at hy) (fun h₄ hns₄ hsb₄ => ?_) hkind)
    dsimp only at hns₄ hsb₄ ⊢
    have R₂ := R₁.keep (tk := tk) hk
    generalize hH3 : h'.push { cls := .type "list", dict := none, data := .seq ([] : List Value).toArray } = H3 at hns₄ hsb₄ ⊢
    have k3 : ∀ b ob, h'.get? b = some ob → H3.get? b = some ob := fun b ob e => hH3 ▸ Heap.get?_push_of_some _ e
    have hD3 : H3.get? h'.objs.size = some (lstO #[] 0) := hH3 ▸ Heap.get?_push_size _ rfl
    have hsz3 : H3.objs.size = h'.objs.size + 1 := by rw [← hH3, Heap.size_push]
    have k4 : ∀ b ob, H3.get? b = some ob → h₄.get? b = some ob := fun b ob e => hsb₄.extBut b ob (Nat.ne_of_lt (Heap.lt_size e)) (Heap.get?_push_of_some _ e)
    have R₄ := R₂.keep (h' := h₄) (tk := tk + ([] : List (Str × Value)).length) fun b ob e => k4 _ _ (k3 _ _ e)
    obtain ⟨oL, eL, LH⟩ := R₄.hide
    have hC : ∀ {a : Addr} {ob : Obj}, h'.get? a = some ob → a ≠ H3.objs.size := fun e q => by
      have := Heap.lt_size e
      rw [q, hsz3] at this
      exact absurd this (by simp)
    have nC : ({ s₁ with heap := h', toks := tk } : Shared).heap.get? H3.objs.size = none := Heap.get?_none_of_le (by show h'.objs.size ≤ _; omega)
    have nD : ({ s₁ with heap := h', toks := tk } : Shared).heap.get? h'.objs.size = none := none_of_size
    have kpE_none : ∀ a, ({ s₁ with heap := h', toks := tk } : Shared).heap.get? a = none → (fun b => if b = env.locals then some oL else kp b) a = none := fun a ha => by
      dsimp only
      rw [if_neg (fun q => by obtain ⟨ob, e⟩ := R₂.ns_some; rw [← q, ha] at e; cases e)]
      exact R₂.kp_none ha
    have tabs_ne : ∀ a, ({ s₁ with heap := h', toks := tk } : Shared).heap.get? a = none → ∀ q ∈ X.tabs, q.2 ≠ a := fun a ha q hq e => by
      obtain ⟨ps, e', _⟩ := R₂.tb q hq
      rw [e, ha] at e'; cases e'
    have RC : Rel X (compEnvC scope cl H3.objs.size env) fz₁ (fun b => if b = env.locals then some oL else kp b) kg ρ₁ ⟨[], cs, st₁.led⟩ { s₁ with heap := h₄, toks := tk + ([] : List (Str × Value)).length } :=
      { LH with
        iloc := ⟨_, hns₄, fun x v e => by cases e⟩
        icell := fun x i e => CRel.look (CRel.grow g₁ _ _ hcr) e
        offL := ⟨R₂.fz_none nC, kpE_none _ nC, R₂.notin nC, tabs_ne _ nC⟩ }
    have nI : s₁.heap.get? I = none := hn
    have aI : Apart X (compEnvC scope cl H3.objs.size env) fz₁ (fun b => if b = env.locals then some oL else kp b) ρ₁ I :=
      { fz := R₁.fz_none nI
        kp := by
          show (if I = env.locals then some oL else kp I) = none
          rw [if_neg (fun q => by obtain ⟨ob, e⟩ := R₁.ns_some; rw [← q, nI] at e; cases e)]
          exact R₁.kp_none nI
        ρ := R₁.notin nI
        tab := fun q hq e => by
          obtain ⟨ps, e', _⟩ := R₁.tb q hq
          rw [e, nI] at e'; cases e'
        L := hC hI }
    have aD : Apart X (compEnvC scope cl H3.objs.size env) fz₁ (fun b => if b = env.locals then some oL else kp b) ρ₁ h'.objs.size :=
      { fz := R₂.fz_none nD
        kp := kpE_none _ nD
        ρ := R₂.notin nD
        tab := tabs_ne _ nD
        L := by show h'.objs.size ≠ H3.objs.size; omega }
    have hDI : h'.objs.size ≠ I := fun q => by
      have := Heap.lt_size hI
      rw [← q] at this
      exact Nat.lt_irrefl _ this
    have loop : codeAny (model X.prog X.w) A (.compLoop (.ListComp elt (⟨target, iter, ifs, 0⟩ :: gs) scope pos) 0 (.ref I) (.ref h'.objs.size) (compEnvC scope cl H3.objs.size env))
        (compPost (model X.prog X.w) A E none Q (.ref h'.objs.size) H3.objs.size) { s₁ with heap := h₄, toks := tk + ([] : List (Str × Value)).length } := by
      obtain ⟨st₂, h3', e3⟩ := h3 H3.objs.size cl
      refine h3'.code (k := 0) (g := ⟨target, iter, ifs, 0⟩) (rest := gs) (fun g hg => by rcases List.mem_cons.mp hg with rfl | hg; exact rfl; exact hsy g hg) _ rfl rfl ok RC aI (k4 _ _ (k3 _ _ hI)) hit aD hDI (k4 _ _ hD3) (done := []) (by simp [VRels]) (by simpa using hz) fun fz' ρ' s' arr' ep' R' g' aD' hD' hv' => ?_
      obtain ⟨m', hn', _⟩ := R'.iloc
      refine ⟨m', hn', fun h₅ hs₅ => ?_⟩
      have R'' := R'.freeze aD' hD'
      have g'' : Grow fz' ρ' _ ρ' := grow_upd (o := lstO arr' ep') aD'.fz
      have L₅ := R''.toLRel.same (tk := s'.toks) hs₅ R''.offL.1 R''.offL.2.1 R''.offL.2.2.1 R''.offL.2.2.2
      rw [e3] at L₅
      refine q _ _ _ _ (R₄.back eL L₅ (g'.trans g'')) ((g₁.trans g').trans g'') ?_
      simp only [VRel]
      exact ⟨_, arr', ep', rfl, upd_self .., VRels.grow g'' _ _ (by simpa using hv')⟩
    exact codeAny_compStartM (g := ⟨target, iter, ifs, 0⟩) rfl rfl loop (IterRel.self RC.toLRel (k4 _ _ (k3 _ _ hI)) hit loop)
/-- «x = [..]» on one line, x a local name: stored before the comprehension's own names go -/
theorem ExS.assignCompM {elt target iter : PySem.Expr} {ifs : List PySem.Expr} {gs : List Comprehension} {scope : Scope} {pos spos py : Pos} {y : Str} {v : MVal} {xs ys : List MVal} {cs : List (Str × Nat)} (O : EnvOk env) (h1 : EvE X env d iter st v st₁) (h2 : IterE X env d v xs st₁)
    (hcs : csOf st.cells scope.names [] = some cs) (h3 : ∀ C cl, ∃ st₂, CompM X (compEnvC scope cl C env) d elt (⟨target, iter, ifs, 0⟩ :: gs) xs ⟨[], cs, st₁.led⟩ ys st₂ ∧ st₂.led = led') (hb : BindE X env d y (.lst ys) { st₁ with led := led' } st')
    (hsw : swapsWith (.ListComp elt (⟨target, iter, ifs, 0⟩ :: gs) scope pos) (some (.Name y py)) spos.line env = pure true := by rfl) (hsy : ∀ g ∈ gs, g.is_async = 0) (hz : ys.length ≤ 10000000 := by simp)
    (hkind : scope.kind = .function := by rfl) (hcell : (scope.names.all fun x => x.2 != .cell) = true := by rfl) (hnm : (scope.names.all fun x => x.2 != .local || decide (scope.names.lookup x.1 = some .local)) = true := by rfl)
    (hs : ∀ x, foldedSetIterable iter env x = pure x := by intro _; rfl) :
    ExS X env d (.Assign [.Name y py] (.ListComp elt (⟨target, iter, ifs, 0⟩ :: gs) scope pos) spos) st .next st' :=
  fun A fz kp kg ρ s ok R Q E q => by
    have hcell' : ∀ x ∈ scope.names, x.2 ≠ .cell := fun x hx e => by
      have := List.all_eq_true.mp hcell x hx
      rw [e] at this
      exact absurd this (by decide)
    have hnames : ∀ x ∈ scope.names, x.2 = .local → scope.names.lookup x.1 = some .local := fun x hx e => by
      have := List.all_eq_true.mp hnm x hx
      rw [e] at this
      simpa using this
    rw [exec_Assign_Name_used _ _ _ _ hsw]
    refine wpAny_bind (wpAny_standAt (wpAny_bind ?_))
    show wpAny _ A (do let _ ← comprehension (.ListComp elt (⟨target, iter, ifs, 0⟩ :: gs) scope pos) scope env (firstIterPos (⟨target, iter, ifs, 0⟩ :: gs) pos) (newList []) false (eval iter env) (some (PySem.assign (.Name y py) env))) _ _ s
    obtain ⟨cl, e1, hcr⟩ := R.clos scope.names [] [] cs rfl hcs
    refine wpAny_bind (wpAny_mono (wpAny_comprehension_free (use := some (PySem.assign (.Name y py) env)) (Q := fun _ s' => Q .next s') rfl hs (closureFor_is e1) hkind hnames (h1 A fz kp kg ρ s ok R _ _ fun fz₁ ρ₁ va s₁ R₁ g₁ r₁ => h2 A fz₁ kp kg ρ₁ s₁ va _ _ ok R₁ r₁ fun I o h' tk hn hk hI hit => ?_)) (fun _ s' hq => wpAny_pure (wpAny_pure hq)) fun _ _ e => e)
    -- the new list
    refine wpAny_newObj_type (wpAny_newFunctionEnv hcell' (by intro y hy; simp at hy) (fun h₄ hns₄ hsb₄ => ?_) hkind)
    dsimp only at hns₄ hsb₄ ⊢
    have R₂ := R₁.keep (tk := tk) hk
    generalize hH3 : h'.push { cls := .type "list", dict := none, data := .seq ([] : List Value).toArray } = H3 at hns₄ hsb₄ ⊢
    have k3 : ∀ b ob, h'.get? b = some ob → H3.get? b = some ob := fun b ob e => hH3 ▸ Heap.get?_push_of_some _ e
    have hD3 : H3.get? h'.objs.size = some (lstO #[] 0) := hH3 ▸ Heap.get?_push_size _ rfl
    have hsz3 : H3.objs.size = h'.objs.size + 1 := by rw [← hH3, Heap.size_push]
    have k4 : ∀ b ob, H3.get? b = some ob → h₄.get? b = some ob := fun b ob e => hsb₄.extBut b ob (Nat.ne_of_lt (Heap.lt_size e)) (Heap.get?_push_of_some _ e)
    have R₄ := R₂.keep (h' := h₄) (tk := tk + ([] : List (Str × Value)).length) fun b ob e => k4 _ _ (k3 _ _ e)
    obtain ⟨oL, eL, LH⟩ := R₄.hide
    have hC : ∀ {a : Addr} {ob : Obj}, h'.get? a = some ob → a ≠ H3.objs.size := fun e q => by
      have := Heap.lt_size e
      rw [q, hsz3] at this
      exact absurd this (by simp)
    have nC : ({ s₁ with heap := h', toks := tk } : Shared).heap.get? H3.objs.size = none := Heap.get?_none_of_le (by show h'.objs.size ≤ _; omega)
    have nD : ({ s₁ with heap := h', toks := tk } : Shared).heap.get? h'.objs.size = none := none_of_size
    have kpE_none : ∀ a, ({ s₁ with heap := h', toks := tk } : Shared).heap.get? a = none → (fun b => if b = env.locals then some oL else kp b) a = none := fun a ha => by
      dsimp only
      rw [if_neg (fun q => by obtain ⟨ob, e⟩ := R₂.ns_some; rw [← q, ha] at e; cases e)]
      exact R₂.kp_none ha
    have tabs_ne : ∀ a, ({ s₁ with heap := h', toks := tk } : Shared).heap.get? a = none → ∀ q ∈ X.tabs, q.2 ≠ a := fun a ha q hq e => by
      obtain ⟨ps, e', _⟩ := R₂.tb q hq
      rw [e, ha] at e'; cases e'
    have RC : Rel X (compEnvC scope cl H3.objs.size env) fz₁ (fun b => if b = env.locals then some oL else kp b) kg ρ₁ ⟨[], cs, st₁.led⟩ { s₁ with heap := h₄, toks := tk + ([] : List (Str × Value)).length } :=
      { LH with
        iloc := ⟨_, hns₄, fun x v e => by cases e⟩
        icell := fun x i e => CRel.look (CRel.grow g₁ _ _ hcr) e
        offL := ⟨R₂.fz_none nC, kpE_none _ nC, R₂.notin nC, tabs_ne _ nC⟩ }
    have nI : s₁.heap.get? I = none := hn
    have aI : Apart X (compEnvC scope cl H3.objs.size env) fz₁ (fun b => if b = env.locals then some oL else kp b) ρ₁ I :=
      { fz := R₁.fz_none nI
        kp := by
          show (if I = env.locals then some oL else kp I) = none
          rw [if_neg (fun q => by obtain ⟨ob, e⟩ := R₁.ns_some; rw [← q, nI] at e; cases e)]
          exact R₁.kp_none nI
        ρ := R₁.notin nI
        tab := fun q hq e => by
          obtain ⟨ps, e', _⟩ := R₁.tb q hq
          rw [e, nI] at e'; cases e'
        L := hC hI }
    have aD : Apart X (compEnvC scope cl H3.objs.size env) fz₁ (fun b => if b = env.locals then some oL else kp b) ρ₁ h'.objs.size :=
      { fz := R₂.fz_none nD
        kp := kpE_none _ nD
        ρ := R₂.notin nD
        tab := tabs_ne _ nD
        L := by show h'.objs.size ≠ H3.objs.size; omega }
    have hDI : h'.objs.size ≠ I := fun q => by
      have := Heap.lt_size hI
      rw [← q] at this
      exact Nat.lt_irrefl _ this
    have loop : codeAny (model X.prog X.w) A (.compLoop (.ListComp elt (⟨target, iter, ifs, 0⟩ :: gs) scope pos) 0 (.ref I) (.ref h'.objs.size) (compEnvC scope cl H3.objs.size env))
        (compPost (model X.prog X.w) A E (some (PySem.assign (.Name y py) env)) (fun _ s' => Q .next s') (.ref h'.objs.size) H3.objs.size) { s₁ with heap := h₄, toks := tk + ([] : List (Str × Value)).length } := by
      obtain ⟨st₂, h3', e3⟩ := h3 H3.objs.size cl
      refine h3'.code (k := 0) (g := ⟨target, iter, ifs, 0⟩) (rest := gs) (fun g hg => by rcases List.mem_cons.mp hg with rfl | hg; exact rfl; exact hsy g hg) _ rfl rfl ok RC aI (k4 _ _ (k3 _ _ hI)) hit aD hDI (k4 _ _ hD3) (done := []) (by simp [VRels]) (by simpa using hz) fun fz' ρ' s' arr' ep' R' g' aD' hD' hv' => ?_
      have R'' := R'.freeze aD' hD'
      have g'' : Grow fz' ρ' _ ρ' := grow_upd (o := lstO arr' ep') aD'.fz
      obtain ⟨oC, eC, L₅⟩ := R''.hide
      have hCL : H3.objs.size ≠ env.locals := fun e => by
        obtain ⟨ob, e'⟩ := R₂.ns_some
        exact hC e' e.symm
      have ekp : (fun b => if b = (compEnvC scope cl H3.objs.size env).locals then some oC else (fun b => if b = env.locals then some oL else kp b) b) = (fun b => if b = env.locals then some oL else keepAt kp H3.objs.size oC b) := by
        funext b
        show (if b = H3.objs.size then some oC else if b = env.locals then some oL else kp b) = (if b = env.locals then some oL else if b = H3.objs.size then some oC else kp b)
        by_cases e1 : b = H3.objs.size
        · subst e1; rw [if_pos rfl, if_neg hCL, if_pos rfl]
        · rw [if_neg e1, if_neg e1]
      rw [ekp, e3] at L₅
      have kpC : kp H3.objs.size = none := R₂.kp_none nC
      have R₆ := R₄.back2 eL (kp' := keepAt kp H3.objs.size oC) (by
        unfold keepAt; rw [if_neg (Ne.symm hCL)]; exact R₄.offL.2.1) L₅ (g'.trans g'')
      have hval : VRel (upd fz' h'.objs.size (lstO arr' ep')) ρ' (.lst ys) (.ref h'.objs.size) := by
        simp only [VRel]
        exact ⟨_, arr', ep', rfl, upd_self .., VRels.grow g'' _ _ (by simpa using hv')⟩
      show wpAny _ A (PySem.assign (.Name y py) env (.ref h'.objs.size)) _ _ _
      refine wpAny_assign_Name (hb A _ _ kg ρ' s' _ ok R₆ hval _ _ fun fz₇ ρ₇ _ s₇ R₇ g₇ _ => ?_)
      obtain ⟨R₈, aC, hC₈⟩ := R₇.unput kpC
      obtain ⟨mC, hnC, _⟩ := R'.iloc
      obtain ⟨o₁, es₁, ep₁, k1, k2⟩ := hnC
      have eo : o₁ = oC := by
        have : s'.heap.get? H3.objs.size = some o₁ := k1
        rw [show s'.heap.get? H3.objs.size = some oC from eC] at this
        cases this; rfl
      subst eo
      refine ⟨mC, ⟨o₁, es₁, ep₁, hC₈, k2⟩, fun h₉ hs₉ => ?_⟩
      exact q _ _ _ _ (R₈.same (tk := s₇.toks) aC hs₉) (((g₁.trans g').trans g'').trans g₇) rfl
    exact codeAny_compStartM (g := ⟨target, iter, ifs, 0⟩) rfl rfl loop (IterRel.self RC.toLRel (k4 _ _ (k3 _ _ hI)) hit loop)
end
end Mine
end
section
open PySem PySem.W PySem.Calls PyProof.Rows
set_option linter.all false
set_option maxRecDepth 100000
namespace Mine
section
variable {X : SX} {env : Env} {d : Nat} {st st' st₁ st₂ : St} {fz kp : FH} {kg : Nat → Option GenState} {ρ : List Addr} {s : Shared}
theorem Rel.newLst (R : Rel X env fz kp kg ρ st s) {h' : Heap} {tk : Nat} {a : Addr} {arr : Array Value} {ep : Nat} {vs : List MVal} (hn : s.heap.get? a = none) (hk : ∀ b o, s.heap.get? b = some o → h'.get? b = some o) (ha : h'.get? a = some (lstO arr ep)) (hv : VRels fz ρ vs arr.toList) :
    ∃ fz', Rel X env fz' kp kg ρ st { s with heap := h', toks := tk } ∧ Grow fz ρ fz' ρ ∧ VRel fz' ρ (.lst vs) (.ref a) := by
  have g : Grow fz ρ _ ρ := grow_upd (o := lstO arr ep) (R.fz_none hn)
  refine ⟨_, R.new (tk := tk) hn hk ha, g, ?_⟩
  simp only [VRel]
  exact ⟨_, _, _, rfl, upd_self .., VRels.grow g _ _ hv⟩
theorem Rel.newTup (R : Rel X env fz kp kg ρ st s) {h' : Heap} {tk : Nat} {a : Addr} {arr : Array Value} {vs : List MVal} (hn : s.heap.get? a = none) (hk : ∀ b o, s.heap.get? b = some o → h'.get? b = some o) (ha : h'.get? a = some (tupO arr 0)) (hv : VRels fz ρ vs arr.toList) :
    ∃ fz', Rel X env fz' kp kg ρ st { s with heap := h', toks := tk } ∧ Grow fz ρ fz' ρ ∧ VRel fz' ρ (.tup vs) (.ref a) := by
  have g : Grow fz ρ _ ρ := grow_upd (o := tupO arr 0) (R.fz_none hn)
  refine ⟨_, R.new (tk := tk) hn hk ha, g, ?_⟩
  simp only [VRel]
  exact ⟨_, _, rfl, upd_self .., VRels.grow g _ _ hv⟩
/-- list(tuple), list(list) -/
theorem AppE.listOf {a : MVal} {vs : List MVal} (ha : a = .tup vs ∨ a = .lst vs) (hz : vs.length ≤ 10000000) : AppE X env d (.obj (.type "list")) [a] [] st (.lst vs) st :=
  fun A fz kp kg ρ s fv us kvs ok R hf hv hk Q E q => by
    have ek := kvs_nil hk; subst ek
    simp only [VRel] at hf; subst hf
    simp only [VRels] at hv
    obtain ⟨y, r, rfl, hy, rfl⟩ := hv
    have key : ∀ {T : String} {x : Addr} {arr : Array Value} {ep : Nat}, (T = "list" ∨ T = "tuple") → fz x = some { cls := .type T, data := .seq arr ep } → VRels fz ρ vs arr.toList → wpAny (model X.prog X.w) A (call (.type "list") [.ref x]) Q E s := by
      intro T x arr ep hT hx hvs
      have hsz : arr.size = vs.length := by simpa using VRels.length hvs
      refine call_list_seq x hT (R.ifz _ _ hx) rfl rfl (fun h' c' h1 h2 => ?_) (by rw [sizeLine_eq]; omega)
      obtain ⟨fz', R', g', r'⟩ := R.newLst (tk := s.toks) none_of_size h1 h2 hvs
      exact q _ _ _ _ R' g' r'
    rcases ha with rfl | rfl
    · simp only [VRel] at hy
      obtain ⟨x, arr, rfl, h1, h2⟩ := hy
      exact key (.inr rfl) h1 h2
    · simp only [VRel] at hy
      obtain ⟨x, arr, ep, rfl, h1, h2⟩ := hy
      exact key (.inl rfl) h1 h2
/-- tuple(list) -/
theorem AppE.tupOf {vs : List MVal} (hz : vs.length ≤ 10000000) : AppE X env d (.obj (.type "tuple")) [.lst vs] [] st (.tup vs) st :=
  fun A fz kp kg ρ s fv us kvs ok R hf hv hk Q E q => by
    have ek := kvs_nil hk; subst ek
    simp only [VRel] at hf; subst hf
    simp only [VRels] at hv
    obtain ⟨y, r, rfl, hy, rfl⟩ := hv
    simp only [VRel] at hy
    obtain ⟨x, arr, ep, rfl, h1, h2⟩ := hy
    have hsz : arr.size = vs.length := by simpa using VRels.length h2
    refine call_tuple_list ⟨_, R.ifz _ _ h1, rfl, _, rfl⟩ (fun h' hk' => ?_) (by rw [sizeLine_eq]; omega)
    have R₁ := R.keep (h' := h') (tk := s.toks) hk'
    have hn : ({ s with heap := h', toks := s.toks } : Shared).heap.get? h'.objs.size = none := none_of_size
    obtain ⟨fz', R', g', r'⟩ := R₁.newTup (tk := s.toks) hn (fun _ _ e => Heap.get?_push_of_some _ e) (Heap.get?_push_size _ rfl) h2
    exact q _ _ _ _ R' g' r'
theorem ints_are : ∀ {ns : List Int} {us : List Value}, VRels fz ρ (ns.map MVal.int) us → IntsAre us ns
  | [], us, h => by simp only [List.map_nil, VRels] at h; subst h; exact .nil
  | n :: ns, us, h => by
    simp only [List.map_cons, VRels, VRel] at h
    obtain ⟨v, r, rfl, ⟨t, rfl⟩, h2⟩ := h
    exact .cons n t (ints_are h2)
theorem ints_back : ∀ {ns : List Int} {us : List Value}, IntsAre us ns → VRels fz ρ (ns.map MVal.int) us
  | _, _, .nil => by simp [VRels]
  | _, _, .cons n t h => by
    simp only [List.map_cons, VRels, VRel]
    exact ⟨_, _, rfl, ⟨_, rfl⟩, ints_back h⟩
/-- sorted(list of ints) -/
theorem AppE.sorted {ns : List Int} (hz : ns.length < 64) : AppE X env d (.obj (.builtin "sorted")) [.lst (ns.map MVal.int)] [] st (.lst ((sortI ns).map MVal.int)) st :=
  fun A fz kp kg ρ s fv us kvs ok R hf hv hk Q E q => by
    have ek := kvs_nil hk; subst ek
    simp only [VRel] at hf; subst hf
    simp only [VRels] at hv
    obtain ⟨y, r, rfl, hy, rfl⟩ := hv
    simp only [VRel] at hy
    obtain ⟨x, arr, ep, rfl, h1, h2⟩ := hy
    have hsz : arr.toList.length = (ns.map MVal.int).length := VRels.length h2
    refine sorted_ints (vs := arr.toList) (ns := ns) ⟨_, R.ifz _ _ h1, rfl, ep, rfl⟩ (ints_are h2) (by rw [hsz]; simpa using hz) fun out ns' k1 k2 k3 => ?_
    have e : ns' = sortI ns := List.Perm.eq_of_pairwise (fun a b _ _ h1 h2 => Int.le_antisymm h1 h2) k3 (sortI_rises ns) (k2.trans (sortI_perm ns).symm)
    subst e
    obtain ⟨ep', hat⟩ := sortedAll_at s.heap arr.toList out
    have hn : s.heap.get? (s.heap.objs.size + 1) = none := Heap.get?_none_of_le (by omega)
    obtain ⟨fz', R', g', r'⟩ := R.newLst (tk := s.toks) hn (fun b o e => sortedAll_old e) hat (ints_back k1)
    exact q _ _ _ _ R' g' r'
end
end Mine
end
section
open PySem PySem.W PySem.Calls PyProof.Rows
set_option linter.all false
set_option maxRecDepth 100000
namespace Mine
section
variable {prog : Program} {w : World} {A : Around} {E : Value → Shared → Prop} {s : Shared}
theorem adjust_to (b n : Nat) (hb : b ≤ n) : Builtin.Slice.sliceAdjust none (some (b : Int)) 1 (n : Int) = (0, (b : Int)) := by
  unfold Builtin.Slice.sliceAdjust
  have h1 : ¬ ((1 : Int) < 0) := by omega
  have h2 : ¬ ((b : Int) < 0) := by omega
  simp only [h1, h2, if_false]
  congr 1
  omega
theorem places_to (b : Nat) : Builtin.Slice.slicePlaces 0 (b : Int) 1 = b := by
  unfold Builtin.Slice.slicePlaces
  have h1 : (1 : Int) > 0 := by omega
  simp only [h1, if_true, Int.ediv_one]
  split <;> omega
theorem sliceApplied_to {sl : Addr} {b n : Nat} {u : Tok} {Q : Int × Int × Nat → Shared → Prop} (hs : s.heap.IsSliceOf sl .none (.int b u) .none) (hb : b ≤ n) (h : Q (0, 1, b) s) :
    wpAny (model prog w) A (Builtin.Slice.sliceApplied (.ref sl) (pure (n : Int))) Q E s := by
  obtain ⟨os, hos, hcs, hds⟩ := id hs
  unfold Builtin.Slice.sliceApplied Builtin.Slice.sliceFields
  refine wpAny_bind (wpAny_bind (wpAny_field hos hds (x := .none) rfl (wpAny_bind (wpAny_field hos hds (x := .int b u) rfl (wpAny_bind (wpAny_field hos hds (x := .none) rfl (wpAny_pure ?_)))))))
  refine wpAny_bind (slicePart_none ?_)
  show wpAny _ _ (if ((1 : Int) == 0) = true then _ else _) _ _ s
  rw [if_neg (by decide)]
  refine wpAny_bind (slicePart_none (wpAny_bind (slicePart_int (wpAny_bind (wpAny_pure ?_)))))
  show wpAny _ _ (match Builtin.Slice.sliceAdjust none (some (b : Int)) 1 (n : Int) with | (lo, hi) => pure (lo, (1 : Int), Builtin.Slice.slicePlaces lo hi 1)) _ _ s
  rw [adjust_to b n hb]
  show wpAny _ _ (pure ((0 : Int), (1 : Int), Builtin.Slice.slicePlaces (0 : Int) (b : Int) 1)) _ _ s
  rw [places_to b]
  exact wpAny_pure h
theorem pick_to (xs : Array Value) (b : Nat) (hb : b ≤ xs.size) : ((List.range b).filterMap fun (k : Nat) => xs[((0 : Int) + (k : Int) * 1).toNat]?).toArray = (xs.toList.take b).toArray := by
  have e : (fun (k : Nat) => xs[((0 : Int) + (k : Int) * 1).toNat]?) = fun k => xs[0 + k]? := by
    funext k
    have : ((0 : Int) + (k : Int) * 1).toNat = 0 + k := by omega
    rw [this]
  rw [e]
  have := pick_run xs 0 b
  rw [List.filterMap_map] at this
  have e2 : ((fun x => xs[x]?) ∘ fun x => 0 + x) = fun k => xs[0 + k]? := rfl
  rw [e2] at this
  rw [this]; rfl
theorem getItem_tuple_to {t sl : Addr} {items : Array Value} {b : Nat} {u : Tok} {Q : Value → Shared → Prop} (ht : IsTup s.heap t items) (hs : s.heap.IsSliceOf sl .none (.int b u) .none) (hb : b < items.size)
    (h : Q (.ref s.heap.objs.size) { s with heap := s.heap.push { cls := .type "tuple", data := .seq (items.toList.take b).toArray } })
    (hsz : items.size ≤ sizeLine := by size_fits) : wpAny (model prog w) A (getItem (.ref t) (.ref sl)) Q E s := by
  have htake : sizeOk (.seq (items.toList.take b).toArray) := by
    show (items.toList.take b).toArray.size ≤ sizeLine
    rw [List.size_toArray, List.length_take, Array.length_toList]
    omega
  obtain ⟨os, hos, hcs, hds⟩ := id hs
  have hTs : s.TypeIs (.ref sl) "slice" := ⟨os, hos, hcs⟩
  unfold getItem
  try with_reducible refine wpAny_holding ?_
  first | refine wpAny_bind (wpAny_pure ?_) | skip
  refine wpAny_bind (wpAny_sequenceKey ht.typeIs (by decide) ?_)
  refine wpAny_bind (wpAny_callSpecial?_slot (name := Str.ofString "__getitem__") ht.typeIs slot_tuple_getitem
    (wpAny_call_entry slot_tuple_getitem ht.typeIs entry_tuple_getitem ?_ (args_tuple_getitem _ _)))
  show wpAny _ _ (Builtin.Tuple.tupleItemsOf (.ref t) >>= _) _ _ s
  refine wpAny_bind (tupleItemsOf_ ht ?_)
  refine wpAny_bind (wpAny_typeOf hTs ?_)
  rw [if_pos (by decide)]
  refine wpAny_bind (sliceApplied_to hs (Nat.le_of_lt hb) ?_)
  have hno : ¬ (((0 : Int) == 0 && (1 : Int) == 1 && b == items.size) = true) := by
    have : (b == items.size) = false := by rw [beq_eq_false_iff_ne]; omega
    rw [this]; simp
  show wpAny _ _ (if ((0 : Int) == 0 && (1 : Int) == 1 && b == items.size) = true then _ else _) _ _ s
  rw [if_neg hno, pick_to items b (Nat.le_of_lt hb)]
  first
    | exact wpAny_bind (m := Builtin.Tuple.tupleExact _) (wpAny_newObj_type (wpAny_pure ⟨_, rfl, wpAny_pure h⟩) htake)
    | exact wpAny_bind (m := Builtin.Tuple.tupleExact _) (wpAny_newObj_type (wpAny_bind (wpAny_pure (wpAny_pure ⟨_, rfl, wpAny_pure h⟩))) htake)
    | exact wpAny_bind (wpAny_bind (m := Builtin.Tuple.tupleExact _) (wpAny_newObj_type (wpAny_pure (wpAny_pure ⟨_, rfl, wpAny_pure h⟩)) htake))
end
section
variable {X : SX} {env : Env} {d : Nat} {st st' st₁ st₂ : St} {fz kp : FH} {kg : Nat → Option GenState} {ρ : List Addr} {s : Shared}
theorem VRels.takeN {n : Nat} : ∀ {ms : List MVal} {us : List Value}, VRels fz ρ ms us → ∀ n, VRels fz ρ (ms.take n) (us.take n)
  | [], us, h, n => by simp only [VRels] at h; subst h; simp [VRels]
  | x :: xs, us, h, 0 => by simp [VRels]
  | x :: xs, us, h, n + 1 => by
    simp only [VRels] at h
    obtain ⟨u, r, rfl, h1, h2⟩ := h
    simp only [List.take_succ_cons, VRels]
    exact ⟨_, _, rfl, h1, VRels.takeN (n := n) h2 n⟩
theorem VRels.drop : ∀ {ms : List MVal} {us : List Value}, VRels fz ρ ms us → ∀ n, VRels fz ρ (ms.drop n) (us.drop n)
  | [], us, h, n => by simp only [VRels] at h; subst h; simp [VRels]
  | x :: xs, us, h, 0 => by simpa using h
  | x :: xs, us, h, n + 1 => by
    simp only [VRels] at h
    obtain ⟨u, r, rfl, h1, h2⟩ := h
    simpa using VRels.drop h2 n
theorem tup_is0 {vs : List MVal} {u : Value} {led : List MObj} (R : LRel X fz kp kg ρ led s) (h : VRel fz ρ (.tup vs) u) : ∃ a arr, u = .ref a ∧ s.heap.get? a = some (tupO arr 0) ∧ VRels fz ρ vs arr.toList ∧ arr.size = vs.length := by
  simp only [VRel] at h
  obtain ⟨a, arr, rfl, h1, h2⟩ := h
  exact ⟨a, arr, rfl, R.ifz _ _ h1, h2, by simpa using VRels.length h2⟩
/-- tuple[:b] -/
theorem EvE.subTto {value hi : PySem.Expr} {p pos : Pos} {vs : List MVal} {b : Nat} (h1 : EvE X env d value st (.tup vs) st₁) (h2 : EvE X env d hi st₁ (.int b) st') (hb : b < vs.length) (hz : vs.length ≤ 10000000)
    (ht : ∀ o r, letTemporaryGo value o r = pure () := by intro _ _; rfl) : EvE X env d (.Subscript value (.Slice none (some hi) none p) pos) st (.tup (vs.take b)) st' :=
  fun A fz kp kg ρ s ok R Q E q => by
    refine wpAny_Subscript_Slice (T := "tuple") slot_tuple_getitem.lookup (h1 A fz kp kg ρ s ok R _ _ fun fz₁ ρ₁ va s₁ R₁ g₁ r₁ => wpAny_Slice ?_) ht
    rw [evalPart_none, evalPart_some]
    refine wpAny_pure (h2 A fz₁ kp kg ρ₁ s₁ ok R₁ _ _ fun fz₂ ρ₂ vb s₂ R₂ g₂ r₂ => wpAny_pure ?_)
    have r₁' := VRel.grow g₂ _ _ r₁
    simp only [VRel] at r₂
    obtain ⟨tk, rfl⟩ := r₂
    obtain ⟨a, arr, rfl, hl, hv, hz'⟩ := tup_is0 R₂.toLRel r₁'
    have hne : a ≠ s₂.heap.objs.size := fun e => by rw [e, none_of_size] at hl; cases hl
    have hl' : (s₂.heap.push { cls := .type "slice", data := .fields #[.none, .int b tk, .none] }).get? a = some (tupO arr 0) := Heap.get?_push_of_some _ hl
    refine ⟨⟨_, hl', rfl⟩, getItem_tuple_to ⟨_, hl', rfl, _, rfl⟩ (Heap.IsSliceOf.new ..) (by omega) ?_ (by rw [sizeLine_eq]; omega)⟩
    have R₃ := R₂.keep (h' := s₂.heap.push { cls := .type "slice", data := .fields #[.none, .int b tk, .none] }) (tk := s₂.toks) (fun _ _ e => Heap.get?_push_of_some _ e)
    have hn : ({ s₂ with heap := s₂.heap.push { cls := .type "slice", data := .fields #[.none, .int b tk, .none] } } : Shared).heap.get? (s₂.heap.push { cls := .type "slice", data := .fields #[.none, .int b tk, .none] }).objs.size = none := none_of_size
    obtain ⟨fz', R', g', r'⟩ := R₃.newTup (tk := s₂.toks) (arr := (arr.toList.take b).toArray) (vs := vs.take b) hn (fun _ _ e => Heap.get?_push_of_some _ e) (Heap.get?_push_size _ rfl) (by simpa using VRels.takeN (n := b) hv b)
    exact q _ _ _ _ R' ((g₁.trans g₂).trans g') r'
/-- tuple[a:] -/
theorem EvE.subTfrom {value lo : PySem.Expr} {p pos : Pos} {vs : List MVal} {a : Nat} (h1 : EvE X env d value st (.tup vs) st₁) (h2 : EvE X env d lo st₁ (.int a) st') (ha0 : 1 ≤ a) (ha : a ≤ vs.length) (hz : vs.length ≤ 10000000)
    (ht : ∀ o r, letTemporaryGo value o r = pure () := by intro _ _; rfl) : EvE X env d (.Subscript value (.Slice (some lo) none none p) pos) st (.tup (vs.drop a)) st' :=
  fun A fz kp kg ρ s ok R Q E q => by
    refine wpAny_Subscript_Slice (T := "tuple") slot_tuple_getitem.lookup (h1 A fz kp kg ρ s ok R _ _ fun fz₁ ρ₁ va s₁ R₁ g₁ r₁ => wpAny_Slice ?_) ht
    rw [evalPart_none, evalPart_some]
    refine h2 A fz₁ kp kg ρ₁ s₁ ok R₁ _ _ fun fz₂ ρ₂ vb s₂ R₂ g₂ r₂ => wpAny_pure (wpAny_pure ?_)
    have r₁' := VRel.grow g₂ _ _ r₁
    simp only [VRel] at r₂
    obtain ⟨tk, rfl⟩ := r₂
    obtain ⟨x, arr, rfl, hl, hv, hz'⟩ := tup_is0 R₂.toLRel r₁'
    have hl' : (s₂.heap.push { cls := .type "slice", data := .fields #[.int a tk, .none, .none] }).get? x = some (tupO arr 0) := Heap.get?_push_of_some _ hl
    refine ⟨⟨_, hl', rfl⟩, getItem_tuple_from ⟨_, hl', rfl, _, rfl⟩ (Heap.IsSliceOf.new ..) ha0 (by omega) ?_ (by rw [sizeLine_eq]; omega)⟩
    have R₃ := R₂.keep (h' := s₂.heap.push { cls := .type "slice", data := .fields #[.int a tk, .none, .none] }) (tk := s₂.toks) (fun _ _ e => Heap.get?_push_of_some _ e)
    have hn : ({ s₂ with heap := s₂.heap.push { cls := .type "slice", data := .fields #[.int a tk, .none, .none] } } : Shared).heap.get? (s₂.heap.push { cls := .type "slice", data := .fields #[.int a tk, .none, .none] }).objs.size = none := none_of_size
    obtain ⟨fz', R', g', r'⟩ := R₃.newTup (tk := s₂.toks) (arr := (arr.toList.drop a).toArray) (vs := vs.drop a) hn (fun _ _ e => Heap.get?_push_of_some _ e) (Heap.get?_push_size _ rfl) (by simpa using VRels.drop hv a)
    exact q _ _ _ _ R' ((g₁.trans g₂).trans g') r'
/-- the greatest of a tuple of ints -/
theorem AppE.maxT {ns : List Int} {m : Int} (hm : m ∈ ns) (hmax : ∀ a ∈ ns, a ≤ m) : AppE X env d (.obj (.builtin "max")) [.tup (ns.map MVal.int)] [] st (.int m) st :=
  fun A fz kp kg ρ s fv us kvs ok R hf hv hk Q E q => by
    have ek := kvs_nil hk; subst ek
    simp only [VRel] at hf; subst hf
    simp only [VRels] at hv
    obtain ⟨y, r, rfl, hy, rfl⟩ := hv
    obtain ⟨x, arr, rfl, hl, hv, hz⟩ := tup_is0 R.toLRel hy
    have hI := ints_are hv
    have hlen : arr.size = ns.length := by simpa using hz
    have hpos : 0 < ns.length := List.length_pos_of_mem hm
    have hat : ∀ i v, arr[i]? = some v → ∃ t, v = Value.int (ns.getD i 0) t := by
      have gen : ∀ {us : List Value} {ns : List Int}, IntsAre us ns → ∀ i v, us[i]? = some v → ∃ t, v = Value.int (ns.getD i 0) t := by
        intro us ns h
        induction h with
        | nil => intro i v e; simp at e
        | cons n t h ih =>
          intro i v e
          cases i with
          | zero => simp at e; exact ⟨t, by simp [e]⟩
          | succ i => simp at e; obtain ⟨t', e'⟩ := ih i v e; exact ⟨t', by simpa using e'⟩
      intro i v e
      rw [← Array.getElem?_toList] at e
      exact gen hI i v e
    refine call_max_walk (wpAny_pyIter_tuple ⟨_, hl, rfl, _, rfl⟩ ?_)
    have hlt := Heap.lt_size hl
    refine ⟨_, _, _, _, _, _, _, rfl, Walks.tuple (A := A.in1) ok.h _ x (Nat.ne_of_lt hlt) arr, ⟨⟨_, Heap.get?_push_size _ rfl, rfl, rfl⟩, ⟨_, Heap.get?_push_of_some _ hl, rfl, _, rfl⟩⟩, fun b hb => ?_, by omega, CmpOf.ints_gt (fun i => ns.getD i 0) hat, fun v h' tk hP hk' => ?_⟩
    · show b < (s.heap.push _).objs.size
      rw [Heap.size_push]
      simp only [List.mem_cons, List.not_mem_nil, or_false] at hb
      rcases hb with rfl | rfl
      · exact Nat.lt_succ_self _
      · exact Nat.lt_succ_of_lt hlt
    · obtain ⟨t, rfl⟩ := hat _ _ hP
      obtain ⟨a1, a2⟩ := argBest_gt (fun i => ns.getD i 0) (arr.size - 1)
      have e : ns.getD (argBest (fun i j => decide (ns.getD i 0 > ns.getD j 0)) (arr.size - 1)) 0 = m := by
        refine Int.le_antisymm ?_ ?_
        · refine hmax _ ?_
          rw [List.getD_eq_getElem?_getD, List.getElem?_eq_getElem (by omega)]
          simp
        · obtain ⟨j, hj, e⟩ := List.getElem_of_mem hm
          have := a2 j (by omega)
          simp only [List.getD_eq_getElem?_getD, List.getElem?_eq_getElem hj, e, Option.getD_some] at this
          simpa [List.getD_eq_getElem?_getD] using this
      rw [e]
      refine q _ _ _ _ (R.keep (tk := tk) fun b o e => hk' b o (fun hb => ?_) (Heap.get?_push_of_some _ e)) (.refl _ _) (by simp only [VRel]; exact ⟨_, rfl⟩)
      simp only [List.mem_cons, List.not_mem_nil, or_false] at hb
      rw [hb, none_of_size] at e; cases e
/-- list.index -/
theorem MtE.index {vs : List MVal} : MtE X env d (.lst vs) "index" st (.obj (.builtin "list.index")) [.lst vs] st := fun A fz kp kg ρ s va pl ok R h Q E q => by
  have h' := h
  obtain ⟨a, arr, rfl, ⟨ep, hl⟩, _⟩ := lst_is R.toLRel h
  exact getMethod_builtin ⟨_, hl, rfl⟩ F.plainAttrs_list F.slot_list_index F.type_list_index (fun b e => by cases e; exact ⟨_, hl, rfl⟩) (q _ _ _ _ R (.refl _ _) ⟨by simp [VRel], by simp only [VRels]; exact ⟨_, _, rfl, h', rfl⟩⟩)
theorem AppE.index {ns : List Int} {k : Int} (hk : k ∈ ns) (hlay : PyData.layable0 (.list (ns.map .int)) = true) : AppE X env d (.obj (.builtin "list.index")) [.lst (ns.map MVal.int), .int k] [] st (.int (ns.idxOf k : Nat)) st :=
  fun A fz kp kg ρ s fv us kvs ok R hf hv hkv Q E q => by
    have ek := kvs_nil hkv; subst ek
    simp only [VRel] at hf; subst hf
    simp only [VRels] at hv
    obtain ⟨y, r, rfl, hy, z, r2, rfl, hz, rfl⟩ := hv
    simp only [VRel] at hz
    obtain ⟨t, rfl⟩ := hz
    obtain ⟨a, arr, rfl, ⟨ep, hl⟩, hv, _⟩ := lst_is R.toLRel hy
    exact index_list_ints (vs := arr.toList) ⟨_, hl, rfl, ep, rfl⟩ (ints_are hv) hlay hk (q _ _ _ _ (R.tk _) (.refl _ _) (by simp only [VRel]; exact ⟨_, rfl⟩))
end
end Mine
end
section
open PySem PySem.W PySem.Calls PyProof.Rows
set_option linter.all false
set_option maxRecDepth 100000
namespace Mine
section
variable {X : SX} {env : Env} {d : Nat} {st st' st₁ st₂ : St} {fz kp : FH} {kg : Nat → Option GenState} {ρ : List Addr} {s : Shared}
theorem readsRef {led : List MObj} {i : Nat} {vs : List MVal} {u : Value} (R : LRel X fz kp kg ρ led s) (hi : led[i]? = some (.lst vs)) (hf : fits vs = true) (h : VRel fz ρ (.ref i) u) : ∃ as, Reads s.heap u (.list (toDs vs)) as := by
  obtain ⟨a, arr, ep, h1, rfl, hl, hv, hz⟩ := ref_is R hi h
  obtain ⟨as, k⟩ := readsAll_of R.ifz vs _ hf hv
  exact ⟨_, .list hl rfl rfl k⟩
/-- a list that changes, held against data -/
theorem CmpE.neRef {i : Nat} {vs : List MVal} {b : MVal} (hi : st.led[i]? = some (.lst vs)) (ha : fits vs = true) (hb : b.fit = true) (hd : b.toD.depth ≤ 100) : CmpE X env d .NotEq (.ref i) b st (!dEq (.lst vs) b) st := fun A fz kp kg ρ s va vb ok R ra rb Q E q => by
  obtain ⟨as, r1⟩ := readsRef R.toLRel hi ha ra
  obtain ⟨bs, r2⟩ := reads_of R.ifz b vb hb rb
  exact SeqAt.compareNe_reads r1 r2 (by simpa [PyData.canLay0] using canLays_of vs ha) (canLay_of b hb) (by have := ok.units; show A.units + _ < 9900; omega) (q _ _ _ _ R (.refl _ _) (by simp [dEq, MVal.toD]))
theorem CmpE.eqRef {i : Nat} {vs : List MVal} {b : MVal} (hi : st.led[i]? = some (.lst vs)) (ha : fits vs = true) (hb : b.fit = true) (hd : b.toD.depth ≤ 100) : CmpE X env d .Eq (.ref i) b st (dEq (.lst vs) b) st := fun A fz kp kg ρ s va vb ok R ra rb Q E q => by
  obtain ⟨as, r1⟩ := readsRef R.toLRel hi ha ra
  obtain ⟨bs, r2⟩ := reads_of R.ifz b vb hb rb
  exact SeqAt.compareEq_reads r1 r2 (by simpa [PyData.canLay0] using canLays_of vs ha) (canLay_of b hb) (by have := ok.units; show A.units + _ < 9900; omega) (q _ _ _ _ R (.refl _ _) (by simp [dEq, MVal.toD]))
/-- what list a value is: data, or a list of the ledger -/
def LstAt (st : St) (v : MVal) (vs : List MVal) : Prop := v = .lst vs ∨ ∃ i, v = .ref i ∧ st.led[i]? = some (.lst vs)
theorem LstAt.is {v : MVal} {vs : List MVal} {u : Value} (h : LstAt st v vs) (R : Rel X env fz kp kg ρ st s) (r : VRel fz ρ v u) : ∃ a arr, u = .ref a ∧ s.heap.PlainList a arr ∧ VRels fz ρ vs arr.toList ∧ arr.size = vs.length := by
  rcases h with rfl | ⟨i, rfl, hi⟩
  · exact lst_is R.toLRel r
  · obtain ⟨a, arr, ep, h1, rfl, hl, hv, hz⟩ := ref_is R.toLRel hi r
    exact ⟨a, arr, rfl, ⟨ep, hl⟩, hv, hz⟩
/-- list + list, whichever they are -/
theorem BinE.addLL {a b : MVal} {vs ws : List MVal} (ha : LstAt st a vs) (hb : LstAt st b ws) (hz : vs.length + ws.length ≤ 10000000) : BinE X env d .Add a b st (.lst (vs ++ ws)) st := fun A fz kp kg ρ s va vb ok R ra rb Q E q => by
  obtain ⟨x, arr, rfl, ⟨ep, hl⟩, hv, hz1⟩ := ha.is R ra
  obtain ⟨y, brr, rfl, ⟨ep', hl'⟩, hv', hz2⟩ := hb.is R rb
  refine PySem.P.add_list (hsz := by rw [sizeLine_eq]; omega) hl hl' ?_
  obtain ⟨fz', R', g', r'⟩ := R.newLst (tk := s.toks) (arr := arr ++ brr) (ep := 0) (vs := vs ++ ws) none_of_size (fun _ _ e => Heap.get?_push_of_some _ e) (Heap.get?_push_size _ rfl) (by rw [Array.toList_append]; exact VRels.append hv hv')
  exact q _ _ _ _ R' g' r'
theorem VRels.rev : ∀ {ms : List MVal} {us : List Value}, VRels fz ρ ms us → VRels fz ρ ms.reverse us.reverse
  | [], us, h => by simp only [VRels] at h; subst h; simp [VRels]
  | x :: xs, us, h => by
    simp only [VRels] at h
    obtain ⟨u, r, rfl, h1, h2⟩ := h
    rw [List.reverse_cons, List.reverse_cons]
    exact VRels.append (VRels.rev h2) (by simp only [VRels]; exact ⟨_, _, rfl, h1, rfl⟩)
/-- list[::-1] -/
theorem EvE.revL {value se : PySem.Expr} {p pos : Pos} {v : MVal} {vs : List MVal} (h1 : EvE X env d value st v st₁) (h2 : EvE X env d se st₁ (.int (-1)) st') (hv : LstAt st' v vs) (hz : vs.length ≤ 10000000)
    (ht : ∀ o r, letTemporaryGo value o r = pure () := by intro _ _; rfl) : EvE X env d (.Subscript value (.Slice none none (some se) p) pos) st (.lst vs.reverse) st' :=
  fun A fz kp kg ρ s ok R Q E q => by
    refine wpAny_Subscript_Slice_step (T := "list") list_getitem_lookup (h1 A fz kp kg ρ s ok R _ _ fun fz₁ ρ₁ va s₁ R₁ g₁ r₁ => wpAny_Slice ?_) ht
    rw [evalPart_none, evalPart_some]
    refine wpAny_pure (wpAny_pure (h2 A fz₁ kp kg ρ₁ s₁ ok R₁ _ _ fun fz₂ ρ₂ vb s₂ R₂ g₂ r₂ => ?_))
    have r₁' := VRel.grow g₂ _ _ r₁
    simp only [VRel] at r₂
    obtain ⟨tk, rfl⟩ := r₂
    obtain ⟨a, arr, rfl, ⟨ep, hl⟩, hvs, hz'⟩ := hv.is R₂ r₁'
    have hl' : (s₂.heap.push { cls := .type "slice", data := .fields #[.none, .none, .int (-1) tk] }).get? a = some (lstO arr ep) := Heap.get?_push_of_some _ hl
    refine ⟨⟨_, hl', rfl⟩, wpAny_getItem_list_slice (lo := none) (hi := none) (st := some (-1)) ⟨_, hl', rfl, _, rfl⟩ (Heap.IsSliceOf.new ..) .none .none (.int _ _) (by simp) ?_ (by rw [sizeLine_eq]; omega)⟩
    rw [krv_pick]
    have R₃ := R₂.keep (h' := s₂.heap.push { cls := .type "slice", data := .fields #[.none, .none, .int (-1) tk] }) (tk := s₂.toks) (fun _ _ e => Heap.get?_push_of_some _ e)
    have hn : ({ s₂ with heap := s₂.heap.push { cls := .type "slice", data := .fields #[.none, .none, .int (-1) tk] } } : Shared).heap.get? (s₂.heap.push { cls := .type "slice", data := .fields #[.none, .none, .int (-1) tk] }).objs.size = none := none_of_size
    obtain ⟨fz', R', g', r'⟩ := R₃.newLst (tk := s₂.toks) (arr := arr.toList.reverse.toArray) (ep := 0) (vs := vs.reverse) hn (fun _ _ e => Heap.get?_push_of_some _ e) (Heap.get?_push_size _ rfl) (by simpa using VRels.rev hvs)
    exact q _ _ _ _ R' ((g₁.trans g₂).trans g') r'
end
end Mine
end
section
open PySem PySem.W PySem.Calls PyProof.Rows
set_option linter.all false
set_option maxRecDepth 100000
namespace Mine
abbrev lstE (k : Nat) : PySem.Expr → PySem.Expr
  | .List es _ => (es[k]?).getD default
  | _ => default
abbrev subI : PySem.Expr → PySem.Expr
  | .Subscript _ i _ => i
  | _ => default
abbrev slLo : PySem.Expr → PySem.Expr
  | .Slice (some e) _ _ _ => e
  | _ => default
abbrev slHi : PySem.Expr → PySem.Expr
  | .Slice _ (some e) _ _ => e
  | _ => default
abbrev slSt : PySem.Expr → PySem.Expr
  | .Slice _ _ (some e) _ => e
  | _ => default
abbrev uE (k : Nat) : PySem.Expr := lstE k (asVal (sub t_law_unfolded 2))
abbrev I2 (l : List Int) : List MVal := l.map MVal.int
/-- the greatest of a list -/
def mx : List Int → Int
  | [] => 0
  | [x] => x
  | x :: r => max x (mx r)
theorem mx_mem : ∀ {l : List Int}, l ≠ [] → mx l ∈ l ∧ ∀ a ∈ l, a ≤ mx l
  | [], h => absurd rfl h
  | [x], _ => by simp [mx]
  | x :: y :: r, _ => by
    obtain ⟨h1, h2⟩ := mx_mem (l := y :: r) (by simp)
    have e : mx (x :: y :: r) = max x (mx (y :: r)) := rfl
    rw [e]
    refine ⟨?_, fun a ha => ?_⟩
    · rcases Int.le_total x (mx (y :: r)) with h | h
      · rw [Int.max_eq_right h]; exact List.mem_cons_of_mem _ h1
      · rw [Int.max_eq_left h]; exact List.mem_cons_self
    · rcases List.mem_cons.mp ha with rfl | ha
      · exact Int.le_max_left _ _
      · exact Int.le_trans (h2 a ha) (Int.le_max_right _ _)
/-- a row, unfolded -/
inductive U where
  | e
  | t (l : U) (g : Int) (r : U)
def U.row : U → List Int
  | .e => []
  | .t l g r => l.row ++ [g] ++ r.row
/-- its numbers, as the hook leaves them -/
def U.rd : U → List Int
  | .e => []
  | .t l g r => l.rd ++ r.rd ++ [g]
/-- each number is the greatest of its own row, at the first place -/
def U.ok : U → Prop
  | .e => True
  | .t l g r => (∀ a ∈ l.row, a < g) ∧ (∀ a ∈ r.row, a ≤ g) ∧ l.ok ∧ r.ok
def U.all (p : Int → Prop) : U → Prop
  | .e => True
  | .t l g r => l.all p ∧ p g ∧ r.all p
theorem idx_app {r : List Int} {g : Int} : ∀ {l : List Int}, g ∉ l → (l ++ [g] ++ r).idxOf g = l.length
  | [], _ => by simp
  | x :: l, h => by
    have h1 : x ≠ g := fun q => h (q ▸ List.mem_cons_self)
    have h2 : g ∉ l := fun q => h (List.mem_cons_of_mem _ q)
    have ih := idx_app (r := r) h2
    simp only [List.cons_append, List.length_cons]
    rw [List.idxOf_cons, cond_eq_ite, if_neg (by simpa using h1), ih]
section
variable {prog : Program} {w : World} {hb : Heap} {mg mb : Str → Option Value} {os : OsState} {d : Nat} {led : List MObj}
abbrev stU (row : List Int) (p : Nat) : St := ⟨[("row", .tup (I2 row)), ("place", .int p)], [], []⟩
theorem lay_ints {l : List Int} (h : l.length ≤ 60) (hb : ∀ a ∈ l, a.natAbs < 2 ^ 60) : PyData.layable0 (.list (l.map .int)) = true := by
  have h1 : PyData.canLayAll0 (l.map .int) = true := by
    clear h hb
    induction l with
    | nil => rfl
    | cons x r ih => simp [PyData.canLayAll0, PyData.canLay0, ih]
  have h2 : PyData.depthAll (l.map .int) = 0 := by
    clear h hb h1
    induction l with
    | nil => rfl
    | cons x r ih => simp [PyData.depthAll, PyData.depth, ih]
  have h3 : PyData.weightAll (l.map .int) ≤ 1000 * l.length := by
    clear h h1 h2
    induction l with
    | nil => simp [PyData.weightAll]
    | cons x r ih =>
      have i1 := ih fun a ha => hb a (List.mem_cons_of_mem _ ha)
      have i2 : PyData.weight (.int x) ≤ 100 := by
        have hx := hb x List.mem_cons_self
        show (if x == 0 then 0 else x.natAbs.log2 + 1) ≤ 100
        split
        · omega
        · have : x.natAbs.log2 < 60 := by
            by_cases h0 : x.natAbs = 0
            · rw [h0]; decide
            · exact (Nat.log2_lt h0).mpr hx
          omega
      simp only [List.map_cons, PyData.weightAll, List.length_cons]
      omega
  unfold PyData.layable0
  simp only [Bool.and_eq_true, decide_eq_true_eq]
  refine ⟨⟨by simpa [PyData.canLay0] using h1, ?_⟩, ?_⟩
  · show PyData.depthAll (l.map .int) + 1 ≤ 64
    omega
  · show PyData.weightAll (l.map .int) ≤ 2 ^ 20
    omega
theorem unfold0 (XO : SXOk (X0 prog w hb mg mb os)) (hl : led.all (MObj.refsLt led.length) = true) : CallsTo (X0 prog w hb mg mb os) (d + 1) (.obj (.ref a_law_unfolded)) [.tup []] [] led (.lst []) led := by
  refine CallsTo.any (led' := []) ?_ (fun n => rfl) rfl rfl hl
  exact CallsTo.run2 XO (gtok XO) 300 [.b true, .m false] [("row", .arg 0)] (.ret (.lst []))
    [((([] : List MVal).length : Int) == 0) = true, ([] : List MVal).length ≤ 10000000]
    ok_law_unfolded (by intro a S; kernel_rfl) (by kernel_rfl) (by kernel_rfl) ⟨rfl, by simp, trivial⟩ rfl
theorem data_ints : ∀ l : List Int, allData (I2 l) = true
  | [] => rfl
  | x :: r => by simp [allData, MVal.isData, data_ints r]
theorem unfold1 (XO : SXOk (X0 prog w hb mg mb os)) (hl : led.all (MObj.refsLt led.length) = true) {a b : List Int} {g : Int} (h1 : ∀ x ∈ a, x < g) (h2 : ∀ x ∈ b, x ≤ g) (hn : (a ++ [g] ++ b).length ≤ 60) (hB : ∀ x ∈ a ++ [g] ++ b, x.natAbs < 2 ^ 60) :
    CallsTo (X0 prog w hb mg mb os) (d + 1) (.obj (.ref a_law_unfolded)) [.tup (I2 (a ++ [g] ++ b))] [] led (.lst [.tup (I2 a), .int g, .tup (I2 b)]) led := by
  refine CallsTo.any (led' := []) ?_ (fun n => rfl) (by show (allData (I2 (a ++ [g] ++ b)) && true) = true; rw [data_ints]; rfl) (by simp [allData, MVal.isData, data_ints]) hl
  have hg : g ∈ a ++ [g] ++ b := by simp
  have hidx : (a ++ [g] ++ b).idxOf g = a.length := idx_app fun q => Int.lt_irrefl _ (h1 g q)
  have ha1 : ((I2 (a ++ [g] ++ b))[a.length]?) = some (.int g) := by simp [I2]
  generalize hrow : a ++ [g] ++ b = row at *
  have hlen : a.length < row.length := by rw [← hrow]; simp
  have hne : row.length ≠ 0 := by omega
  refine CallsTo.run2 XO (gtok XO) 300 [.b false, .r (.lst (I2 row)), .l [.obj (.builtin "list.index"), .lst (I2 row)] [], .r (.int g), .r (.int a.length), .e (uE 0).pos (.tup (I2 a)) (stU row a.length), .i a.length (.int g), .e (uE 2).pos (.tup (I2 b)) (stU row a.length)] [("row", .arg 0)] (.ret (.lst [.tup (I2 a), .int g, .tup (I2 b)]))
    [∀ env, Is env (cxF fd_law_unfolded) → EvE (X0 prog w hb mg mb os) env d (uE 2) (stU row a.length) (.tup (I2 b)) (stU row a.length),
     (a.length : Int) < 2 ^ 63, -(2 ^ 63) ≤ (a.length : Int), (I2 row)[a.length]? = some (.int g), seqIndex? (a.length : Int) (I2 row).length = some a.length,
     ∀ env, Is env (cxF fd_law_unfolded) → EvE (X0 prog w hb mg mb os) env d (uE 0) (stU row a.length) (.tup (I2 a)) (stU row a.length),
     cApp (X0 prog w hb mg mb os) d (.obj (.builtin "list.index")) [.lst (I2 row), .int g] (.int a.length),
     cApp (X0 prog w hb mg mb os) d (.obj (.builtin "max")) [.tup (I2 row)] (.int g),
     cMt (X0 prog w hb mg mb os) d (.lst (I2 row)) "index" (.obj (.builtin "list.index")) [.lst (I2 row)],
     cApp (X0 prog w hb mg mb os) d (.obj (.type "list")) [.tup (I2 row)] (.lst (I2 row)), (((I2 row).length : Int) == 0) = false, (I2 row).length ≤ 10000000]
    ok_law_unfolded (by intro a S; kernel_rfl) (by kernel_rfl) (by kernel_rfl) ⟨fun env I => ?_, by omega, by omega, ha1, seqIdx_nat (by simpa using hlen), fun env I => ?_, fun _ _ _ => ?_, fun _ _ _ => .maxT hg ?_, fun _ _ _ => .index, fun _ _ _ => .listOf (.inl rfl) (by simp; omega), by simpa using hne, by simp; omega, trivial⟩ rfl
  · have h := EvE.subTfrom (X := X0 prog w hb mg mb os) (env := env) (d := d) (value := subV (uE 2)) (lo := slLo (subI (uE 2))) (p := (subI (uE 2)).pos) (pos := (uE 2).pos) (vs := I2 row) (a := a.length + 1) (st := stU row a.length) (st₁ := stU row a.length) (st' := stU row a.length)
      (EvE.run XO (gtok XO) 10 [] [] (by kernel_rfl) trivial I) (EvE.run XO (gtok XO) 10 [] [] (by kernel_rfl) trivial I) (by omega) (by simp; omega) (by simp; omega) (go_ok (by kernel_rfl))
    have e : (I2 row).drop (a.length + 1) = I2 b := by
      rw [← hrow]
      simp [I2, ← List.map_drop, List.drop_append]
    rw [e] at h
    exact h
  · have h := EvE.subTto (X := X0 prog w hb mg mb os) (env := env) (d := d) (value := subV (uE 0)) (hi := slHi (subI (uE 0))) (p := (subI (uE 0)).pos) (pos := (uE 0).pos) (vs := I2 row) (b := a.length) (st := stU row a.length) (st₁ := stU row a.length) (st' := stU row a.length)
      (EvE.run XO (gtok XO) 10 [] [] (by kernel_rfl) trivial I) (EvE.run XO (gtok XO) 10 [] [] (by kernel_rfl) trivial I) (by simpa using hlen) (by simp; omega) (go_ok (by kernel_rfl))
    have e : (I2 row).take a.length = I2 a := by
      rw [← hrow]
      simp [I2, ← List.map_take, List.take_append]
    rw [e] at h
    exact h
  · have h := fun (env : Env) (st : St) => AppE.index (X := X0 prog w hb mg mb os) (env := env) (d := d) (st := st) (ns := row) (k := g) hg (lay_ints hn hB)
    rw [hidx] at h
    exact h _ _
  · intro x hx
    rw [← hrow] at hx
    simp only [List.mem_append, List.mem_singleton] at hx
    rcases hx with (hx | rfl) | hx
    · exact Int.le_of_lt (h1 x hx)
    · exact Int.le_refl _
    · exact h2 x hx
end
end Mine
end
section
open PySem PySem.W PySem.Calls PyProof.Rows
set_option linter.all false
set_option maxRecDepth 100000
namespace Mine
/-- what a number takes off the stack (its top first) -/
def popAll (x : Int) : List Int → List Int → List Int × List Int
  | [], o => ([], o)
  | t :: r, o => if t < x then popAll x r (o ++ [t]) else (t :: r, o)
def pStep (p : List Int × List Int) (x : Int) : List Int × List Int := (x :: (popAll x p.1 p.2).1, (popAll x p.1 p.2).2)
def passed (l : List Int) : List Int := ((l.foldl pStep ([], [])).2 ++ (l.foldl pStep ([], [])).1)
theorem popAll_len (x : Int) : ∀ (s o : List Int), (popAll x s o).1.length + (popAll x s o).2.length = s.length + o.length
  | [], o => by simp [popAll]
  | t :: r, o => by
    unfold popAll
    split
    · rw [popAll_len x r (o ++ [t])]; simp; omega
    · rfl
theorem seqIdx_last {n : Nat} (h : 0 < n) : seqIndex? (-1) n = some (n - 1) := by
  unfold seqIndex?
  have h1 : ((-1 : Int) < 0) := by omega
  simp only [h1, if_true]
  have h2 : ¬ ((-1 + (n : Int)) < 0) := by omega
  have h3 : ¬ ((-1 + (n : Int)) ≥ n) := by omega
  simp
  omega
section
variable {prog : Program} {w : World} {hb : Heap} {mg mb : Str → Option Value} {os : OsState} {d : Nat} {led : List MObj}
theorem folded0 (XO : SXOk (X0 prog w hb mg mb os)) (hl : led.all (MObj.refsLt led.length) = true) : CallsTo (X0 prog w hb mg mb os) (d + 1) (.obj (.ref a_law_folded)) [.lst []] [] led (.lst []) led := by
  refine CallsTo.any (led' := []) ?_ (fun n => rfl) rfl rfl hl
  exact CallsTo.run2 XO (gtok XO) 300 [.m false] [("parts", .arg 0)] (.ret (.lst [])) [([] : List MVal).length ≤ 10000000]
    ok_law_folded (by intro a S; kernel_rfl) (by kernel_rfl) (by kernel_rfl) ⟨by simp, trivial⟩ rfl
theorem allData_app : ∀ {a b : List MVal}, allData a = true → allData b = true → allData (a ++ b) = true
  | [], b, _, h => h
  | x :: xs, b, h1, h2 => by
    simp only [allData, Bool.and_eq_true] at h1
    simp only [List.cons_append, allData, h1.1, allData_app h1.2 h2]; rfl
theorem folded1 (XO : SXOk (X0 prog w hb mg mb os)) (hl : led.all (MObj.refsLt led.length) = true) {a b : List MVal} {g : Int} (ha : allData a = true) (hb' : allData b = true) (hn : a.length + b.length ≤ 1000) :
    CallsTo (X0 prog w hb mg mb os) (d + 1) (.obj (.ref a_law_folded)) [.lst [.lst a, .int g, .lst b]] [] led (.lst (a ++ b ++ [.int g])) led := by
  refine CallsTo.any (led' := []) ?_ (fun n => rfl) (by simp [allData, MVal.isData, ha, hb']) (by
    show allData (a ++ b ++ [.int g]) = true
    exact allData_app (allData_app ha hb') rfl) hl
  exact CallsTo.run2 XO (gtok XO) 300 [] [("parts", .arg 0)] (.ret (.lst (a ++ b ++ [.int g])))
    [(a ++ b).length + [MVal.int g].length ≤ 10000000, a.length + b.length ≤ 10000000, [MVal.lst a, MVal.int g, MVal.lst b].length ≤ 10000000]
    ok_law_folded (by intro a S; kernel_rfl) (by kernel_rfl) (by kernel_rfl) ⟨by simp; omega, by omega, by simp, trivial⟩ rfl
-- the pass
abbrev stP (row : List Int) (s o : List Int) : St := ⟨[("row", .lst (I2 row)), ("out", .ref 1), ("stack", .ref 0)], [], [.lst (I2 s.reverse), .lst (I2 o)]⟩
abbrev stN (row : List Int) (x : Int) (s o : List Int) : St := ⟨[("row", .lst (I2 row)), ("out", .ref 1), ("stack", .ref 0), ("number", .int x)], [], [.lst (I2 s.reverse), .lst (I2 o)]⟩
abbrev pF : Stmt := sub t_law_passed 1
abbrev pW : Stmt := sub pF 0
theorem fits_ints : ∀ l : List Int, fits (I2 l) = true
  | [] => rfl
  | x :: r => by simp [fits, MVal.fit, fits_ints r]
theorem noBs_ints : ∀ l : List Int, noBs (I2 l) = true
  | [] => rfl
  | x :: r => by simp [noBs, MVal.noB, noBs_ints r]
theorem depth_ints (l : List Int) : (MVal.lst (I2 l)).toD.depth ≤ 100 := by
  have : PyData.depthAll (toDs (I2 l)) = 0 := by
    induction l with
    | nil => rfl
    | cons x r ih => simp only [List.map_cons, toDs, PyData.depthAll, MVal.toD, PyData.depth]; simpa using ih
  show PyData.depthAll (toDs (I2 l)) + 1 ≤ 100
  omega
theorem I2_inj {a b : List Int} : I2 a = I2 b ↔ a = b := by
  constructor
  · intro h
    have := congrArg (List.map fun v => match v with | .int i => i | _ => 0) h
    simpa [I2, Function.comp_def] using this
  · intro h; rw [h]
theorem dEq_ints {a b : List Int} : dEq (.lst (I2 a)) (.lst (I2 b)) = decide (a = b) := by
  have h := eqv_iff (.lst (I2 a)) (.lst (I2 b)) (by simpa [MVal.noB] using noBs_ints a) (by simpa [MVal.noB] using noBs_ints b)
  rw [MVal.lst.injEq, I2_inj] at h
  unfold dEq
  by_cases q : a = b
  · rw [h.mpr q]; simp [q]
  · have : PyData.eqv (MVal.lst (I2 a)).toD (MVal.lst (I2 b)).toD ≠ true := fun e => q (h.mp e)
    rw [decide_eq_false q]
    simpa using this
theorem whileP (XO : SXOk (X0 prog w hb mg mb os)) {env : Env} (I : Is env (cxF fd_law_passed)) {row : List Int} {x : Int} : ∀ (s o : List Int), s.length + o.length ≤ 1000 →
    WhileE (X0 prog w hb mg mb os) env d (ftest pW) (fbody pW) (stN row x s o) .next (stN row x (popAll x s o).1 (popAll x s o).2)
  | [], o, _ => by
    refine .stop ?_
    exact TsE.run XO (gtok XO) 20 [.m false, .b false] [∀ env, EnvOk env → CmpE (X0 prog w hb mg mb os) env d .NotEq (.ref 0) (.lst []) (stN row x [] o) false (stN row x [] o)] (by kernel_rfl) ⟨fun env _ => by
      have h := CmpE.neRef (X := X0 prog w hb mg mb os) (env := env) (d := d) (st := stN row x [] o) (i := 0) (vs := []) (b := .lst []) rfl rfl rfl (by decide)
      exact h, trivial⟩ I
  | t :: r, o, hz => by
    have hn0 : ∀ env, EnvOk env → CmpE (X0 prog w hb mg mb os) env d .NotEq (.ref 0) (.lst []) (stN row x (t :: r) o) true (stN row x (t :: r) o) := fun env _ => by
      have h := CmpE.neRef (X := X0 prog w hb mg mb os) (env := env) (d := d) (st := stN row x (t :: r) o) (i := 0) (vs := I2 (t :: r).reverse) (b := .lst []) rfl (fits_ints _) rfl (by decide)
      have e : dEq (.lst (I2 (t :: r).reverse)) (.lst []) = false := by
        have := dEq_ints (a := (t :: r).reverse) (b := [])
        rw [decide_eq_false (by simp)] at this
        exact this
      rw [e] at h
      exact h
    have hi1 : seqIndex? (-1) (I2 (t :: r).reverse).length = some r.length := by
      have := seqIdx_last (n := (I2 (t :: r).reverse).length) (by simp)
      rw [this]; simp
    have hi2 : (I2 (t :: r).reverse)[r.length]? = some (.int t) := by
      simp [I2, List.map_reverse, List.reverse_cons]
    have test : ∀ b, decide (t < x) = b → TsE (X0 prog w hb mg mb os) env d (ftest pW) (stN row x (t :: r) o) b (stN row x (t :: r) o) := by
      intro b hb'
      refine TsE.run XO (gtok XO) 20 [.m false, .b true, .i r.length (.int t), .b b] [decide (t < x) = b, (-1 : Int) < 2 ^ 63, -(2 ^ 63) ≤ (-1 : Int), (I2 (t :: r).reverse)[r.length]? = some (.int t), seqIndex? (-1) (I2 (t :: r).reverse).length = some r.length,
        ∀ env, EnvOk env → CmpE (X0 prog w hb mg mb os) env d .NotEq (.ref 0) (.lst []) (stN row x (t :: r) o) true (stN row x (t :: r) o)] ?run ⟨hb', by omega, by omega, hi2, hi1, hn0, trivial⟩ I
      cases b <;> kernel_rfl
    unfold popAll
    by_cases h : t < x
    · rw [if_pos h]
      refine .next (c := stN row x r (o ++ [t])) (f := .next) (test true (decide_eq_true h)) ?_ (.inl rfl) (whileP XO I r (o ++ [t]) (by simp at hz ⊢; omega))
      have e1 : I2 (t :: r).reverse = I2 r.reverse ++ [.int t] := by simp [I2, List.map_reverse]
      have e2 : I2 (o ++ [t]) = I2 o ++ [.int t] := by simp [I2]
      show ExL _ _ _ _ ⟨_, _, [.lst (I2 (t :: r).reverse), .lst (I2 o)]⟩ _ ⟨_, _, [.lst (I2 r.reverse), .lst (I2 (o ++ [t]))]⟩
      rw [e1, e2]
      exact ExL.run XO (gtok XO) 30 [.v (.int t) [.lst (I2 r.reverse), .lst (I2 o)]]
        [(I2 o).length ≤ 10000000, ∀ env, EnvOk env → AppE (X0 prog w hb mg mb os) env d (.obj (.builtin "list.pop")) [.ref 0] [] ⟨[("row", .lst (I2 row)), ("out", .ref 1), ("stack", .ref 0), ("number", .int x)], [], [.lst (I2 r.reverse ++ [.int t]), .lst (I2 o)]⟩ (.int t) ⟨[("row", .lst (I2 row)), ("out", .ref 1), ("stack", .ref 0), ("number", .int x)], [], [.lst (I2 r.reverse), .lst (I2 o)]⟩] (by kernel_rfl) ⟨by simp at hz ⊢; omega, fun env _ => AppE.pop (i := 0) (vs := I2 r.reverse) rfl (by simp at hz ⊢; omega), trivial⟩ I
    · rw [if_neg h]
      exact .stop (test false (decide_eq_false h))
end
end Mine
end
section
open PySem PySem.W PySem.Calls PyProof.Rows
set_option linter.all false
set_option maxRecDepth 100000
namespace Mine
section
variable {prog : Program} {w : World} {hb : Heap} {mg mb : Str → Option Value} {os : OsState} {d : Nat} {led : List MObj}
local macro_rules | `(tactic| walk_at "sub") => `(tactic| repeat' (first | exact trivial | refine And.intro (by kernel_rfl) ?_))
theorem forP (XO : SXOk (X0 prog w hb mg mb os)) {env : Env} (I : Is env (cxF fd_law_passed)) {row : List Int} : ∀ (xs s o : List Int), s.length + o.length + xs.length ≤ 1000 →
    ∃ st2, ForE (X0 prog w hb mg mb os) env d (ftarg pF) (fbody pF) (I2 xs) (stP row s o) .next st2 ∧ Sub (stP row (xs.foldl pStep (s, o)).1 (xs.foldl pStep (s, o)).2) st2
  | [], s, o, _ => ⟨_, .nil, .of rfl rfl (by walk_at "sub")⟩
  | x :: xs, s, o, hz => by
    have hl := popAll_len x s o
    simp only [List.length_cons] at hz
    obtain ⟨st2, h1, h2⟩ := forP XO I (row := row) xs (x :: (popAll x s o).1) (popAll x s o).2 (by simp only [List.length_cons]; omega)
    refine ⟨st2, ?_, h2⟩
    refine .next (b := stN row x s o) (c := stN row x (x :: (popAll x s o).1) (popAll x s o).2) (f := .next) (StoreE.run XO (gtok XO) 5 [] [] (by kernel_rfl) trivial I) ?_ (.inl rfl) (.weak (a' := stP row (x :: (popAll x s o).1) (popAll x s o).2) (.of rfl rfl (by walk_at "sub")) h1)
    have hw := fun (env : Env) (I : Is env (cxF fd_law_passed)) => whileP (d := d) XO I (row := row) (x := x) s o (by omega)
    generalize popAll x s o = q at hl hw ⊢
    obtain ⟨s', o'⟩ := q
    dsimp only at hl hw ⊢
    have e1 : I2 (x :: s').reverse = I2 s'.reverse ++ [.int x] := by simp [I2, List.map_reverse]
    have hgoal : ∀ vs : List MVal, I2 (x :: s').reverse = vs → ExL (X0 prog w hb mg mb os) env d (fbody pF) (stN row x s o) .next ⟨[("row", .lst (I2 row)), ("out", .ref 1), ("stack", .ref 0), ("number", .int x)], [], [.lst vs, .lst (I2 o')]⟩ := by
      intro vs hvs
      rw [e1] at hvs
      subst hvs
      exact ExL.run XO (gtok XO) 30 [.f .next (stN row x s' o')] [(I2 s'.reverse).length ≤ 10000000, ∀ env, Is env (cxF fd_law_passed) → ∃ st2, WhileE (X0 prog w hb mg mb os) env d (ftest pW) (fbody pW) (stN row x s o) .next st2 ∧ Sub (stN row x s' o') st2] (by kernel_rfl) ⟨by simp; omega, fun env I => ⟨_, hw env I, .of rfl rfl (by walk_at "sub")⟩, trivial⟩ I
    exact hgoal _ rfl
abbrev pE : PySem.Expr := binR (asVal (sub t_law_passed 2))
theorem fold_len : ∀ (xs s o : List Int), (xs.foldl pStep (s, o)).1.length + (xs.foldl pStep (s, o)).2.length = s.length + o.length + xs.length
  | [], s, o => by simp
  | x :: xs, s, o => by
    rw [List.foldl_cons]
    show (xs.foldl pStep (x :: (popAll x s o).1, (popAll x s o).2)).1.length + (xs.foldl pStep (x :: (popAll x s o).1, (popAll x s o).2)).2.length = _
    rw [fold_len xs]
    have := popAll_len x s o
    simp only [List.length_cons]
    omega
theorem passedC (XO : SXOk (X0 prog w hb mg mb os)) (hl : led.all (MObj.refsLt led.length) = true) {row : List Int} (hn : row.length ≤ 500) : CallsTo (X0 prog w hb mg mb os) (d + 1) (.obj (.ref a_law_passed)) [.lst (I2 row)] [] led (.lst (I2 (passed row))) led := by
  have hfl := fold_len row [] []
  have hp : I2 (passed row) = I2 (row.foldl pStep ([], [])).2 ++ I2 (row.foldl pStep ([], [])).1 := by simp [passed, I2]
  have hf := fun (env : Env) (I : Is env (cxF fd_law_passed)) => forP (d := d) XO I (row := row) row [] [] (by simp; omega)
  rw [hp]
  generalize row.foldl pStep ([], []) = q at hfl hf ⊢
  obtain ⟨s, o⟩ := q
  dsimp only at hfl hf ⊢
  simp only [List.length_nil, Nat.zero_add] at hfl
  have hd : allData (I2 o ++ I2 s) = true := allData_app (data_ints o) (data_ints s)
  refine CallsTo.any (led' := [.lst (I2 s.reverse), .lst (I2 o)]) ?_ (fun n => rfl) (by show (allData (I2 row) && true) = true; rw [data_ints]; rfl) hd hl
  have er : I2 s = (I2 s.reverse).reverse := by simp [I2, List.map_reverse]
  rw [er]
  exact CallsTo.run2 XO (gtok XO) 300 [.f .next (stP row s o), .e pE.pos (.lst (I2 s.reverse).reverse) (stP row s o), .v (.lst (I2 o ++ (I2 s.reverse).reverse)) [.lst (I2 s.reverse), .lst (I2 o)]] [("row", .arg 0)] (.ret (.lst (I2 o ++ (I2 s.reverse).reverse)))
    [∀ env, EnvOk env → BinE (X0 prog w hb mg mb os) env d .Add (.ref 1) (.lst (I2 s.reverse).reverse) (stP row s o) (.lst (I2 o ++ (I2 s.reverse).reverse)) (stP row s o),
     ∀ env, Is env (cxF fd_law_passed) → EvE (X0 prog w hb mg mb os) env d pE (stP row s o) (.lst (I2 s.reverse).reverse) (stP row s o),
     ∀ env, Is env (cxF fd_law_passed) → ∃ st2, ForE (X0 prog w hb mg mb os) env d (ftarg pF) (fbody pF) (I2 row) (stP row [] []) .next st2 ∧ Sub (stP row s o) st2]
    ok_law_passed (by intro a S; kernel_rfl) (by kernel_rfl) (by kernel_rfl) ⟨fun env _ => BinE.addLL (.inr ⟨1, rfl, rfl⟩) (.inl rfl) (by simp; omega), fun env I =>
      EvE.revL (X := X0 prog w hb mg mb os) (env := env) (d := d) (value := subV pE) (se := slSt (subI pE)) (p := (subI pE).pos) (pos := pE.pos) (v := .ref 0) (st := stP row s o) (st₁ := stP row s o) (st' := stP row s o)
        (EvE.run XO (gtok XO) 10 [] [] (by kernel_rfl) trivial I) (EvE.run XO (gtok XO) 10 [] [] (by kernel_rfl) trivial I) (.inr ⟨0, rfl, rfl⟩) (by simp; omega) (go_ok (by kernel_rfl)), hf, trivial⟩ rfl
end
end Mine
end
section
open PySem PySem.W PySem.Calls PyProof.Rows
set_option linter.all false
set_option maxRecDepth 100000
namespace Mine
section
variable {prog : Program} {w : World} {hb : Heap} {mg mb : Str → Option Value} {os : OsState} {d : Nat} {led : List MObj} {skip sk isk dflt : MVal} {tup : Bool}
/-- values that are told at the top -/
def TopV (v : MVal) : Prop := (∃ vs, v = .lst vs) ∨ (∃ n, v = .int n) ∨ (∃ vs, v = .tup vs)
theorem iterencV (XO : SXOk (X0 prog w hb mg mb os)) (hmk : MkIt prog w hb mg mb os skip sk tup isk dflt) (hh : isk.handed = true ∧ skip.handed = true ∧ sk.handed = true) {v : MVal} {ys : List (MVal × List MObj)} (hg : GenC (X0 prog w hb mg mb os) (d + 2) (LE (EQ skip sk tup isk dflt) []) FIT csIT [v, .int 0] ys) :
    GenF (X0 prog w hb mg mb os) (d + 4) (d + 2) (.obj (.ref a_JSONEncoder_iterencode)) [.insr a_JSONEncoder 0, v] [.dct (encF (EQ skip sk tup isk dflt))] ys (LE (EQ skip sk tup isk dflt) []) (LE (EQ skip sk tup isk dflt) []) := by
  refine GenF.fn (d := d + 3) (b := fbody t_JSONEncoder_iterencode) (pre := preIE) (e := ieE) (pos := iePos) (bm := [("self", .insr a_JSONEncoder 0), ("o", v)]) (st₁ := ⟨[("self", .insr a_JSONEncoder 0), ("o", v), ("markers", .ref 1), ("_encoder", .obj (.ref a_encode_basestring_ascii)), ("int_as_string_bitcount", .none), ("_iterencode", .clo FIT csIT)], [], LE (EQ skip sk tup isk dflt) []⟩) XO ok_JSONEncoder_iterencode (by kernel_rfl) (by kernel_rfl) ?bind (by kernel_rfl) (by show List.Nodup [Str.ofString "self", Str.ofString "o"]; decide +kernel) (by kernel_rfl) (fun env I => ⟨?pre, ?mk⟩) rfl
  case bind => exact BindsTo'.tm (args := [.insr a_JSONEncoder 0, v]) (kw := []) tmIE (by intro a b S; kernel_rfl)
  case pre =>
    exact ExL.run XO (gtok XO) 30 [.v (.clo FIT csIT) (LE (EQ skip sk tup isk dflt) [])]
      [CallsTo (X0 prog w hb mg mb os) (d + 3) (.obj (.ref a_make_iterencode)) [.ref 1, bdef, encd true, .none, .str ": ", .str ", ", sk, skip, .bool tup, .none, isk] [] [.dct (encF (EQ skip sk tup isk dflt)), .lst []] (.clo FIT csIT) (LE (EQ skip sk tup isk dflt) []), isk.handed = true, true = true, skip.handed = true, sk.handed = true, true = true, true = true, true = true, true = true, true = true] (by kernel_rfl) ⟨hmk _, hh.1, rfl, hh.2.1, hh.2.2, rfl, rfl, rfl, rfl, rfl, trivial⟩ I
  case mk =>
    refine MkG.call (f := .clo FIT csIT) (vs := [v, .int 0]) (EvE.run XO (gtok XO) 20 [] [] (by kernel_rfl) trivial I) KpE.clo (.cons (st₁ := ⟨[("self", .insr a_JSONEncoder 0), ("o", v), ("markers", .ref 1), ("_encoder", .obj (.ref a_encode_basestring_ascii)), ("int_as_string_bitcount", .none), ("_iterencode", .clo FIT csIT)], [], LE (EQ skip sk tup isk dflt) []⟩) (EvE.run XO (gtok XO) 20 [] [] (by kernel_rfl) trivial I) (.cons (st₁ := ⟨[("self", .insr a_JSONEncoder 0), ("o", v), ("markers", .ref 1), ("_encoder", .obj (.ref a_encode_basestring_ascii)), ("int_as_string_bitcount", .none), ("_iterencode", .clo FIT csIT)], [], LE (EQ skip sk tup isk dflt) []⟩) (EvE.run XO (gtok XO) 20 [] [] (by kernel_rfl) trivial I) .nil)) ?_
    exact fun A fz kp kg ρ s fv us Rz ok R hf hv q => hg A fz kp kg ρ s fv us Rz (ok.mono (Nat.le_succ _)) R hf hv q
abbrev stT0V (skip sk : MVal) (tup : Bool) (isk dflt : MVal) (v : MVal) : St := ⟨[("self", .insr a_JSONEncoder 0), ("o", v)], [], [.dct (encF (EQ skip sk tup isk dflt))]⟩
abbrev stTTV (skip sk : MVal) (tup : Bool) (isk dflt : MVal) (v : MVal) (cs : List MVal) : St := ⟨[("self", .insr a_JSONEncoder 0), ("o", v), ("chunks", .lst cs)], [], LE (EQ skip sk tup isk dflt) []⟩
theorem ttHeadV (XO : SXOk (X0 prog w hb mg mb os)) (hmk : MkIt prog w hb mg mb os skip sk tup isk dflt) (hh : isk.handed = true ∧ skip.handed = true ∧ sk.handed = true) {env : Env} (I : Is env (cxF fd_JSONEncoder_to_text)) {v : MVal} (hv : TopV v) {ys : List (MVal × List MObj)} (hz : ys.length ≤ 10000000) (hg : GenC (X0 prog w hb mg mb os) (d + 2) (LE (EQ skip sk tup isk dflt) []) FIT csIT [v, .int 0] ys) :
    ExL (X0 prog w hb mg mb os) env (d + 5) ((fbody t_JSONEncoder_to_text).take 3) (stT0V skip sk tup isk dflt v) .next (stTTV skip sk tup isk dflt v (ys.map (·.1))) := by
  refine ExL.cons (st₁ := stT0V skip sk tup isk dflt v) (by rcases hv with ⟨_, rfl⟩ | ⟨_, rfl⟩ | ⟨_, rfl⟩ <;> exact ExS.run XO (gtok XO) 20 [] [] (by kernel_rfl) trivial I) ?_
  have OO := I.ok
  refine ExL.genList (dI := d + 2) (x := "chunks") (st := stT0V skip sk tup isk dflt v) (led' := LE (EQ skip sk tup isk dflt) []) (ledf := LE (EQ skip sk tup isk dflt) []) (ys := ys) XO OO ?m (by rw [I.kind]; kernel_rfl) (by rfl) (by rfl) (fun g => ?t) (fun st => ?ln) (fun g => ?xn) (by rfl) (by rfl) (by rfl) (by rfl) hz
  case t => exact TsE.run XO (gtok XO) 20 [] [] (by kernel_rfl) trivial I
  case ln => exact EvE.run XO (gtok XO) 20 [] [] (by kernel_rfl) trivial I
  case xn => exact EvE.run XO (gtok XO) 20 [] [] (by kernel_rfl) trivial I
  case m =>
    refine MkG2.meth (a := .insr a_JSONEncoder 0) (f := .obj (.ref a_JSONEncoder_iterencode)) (first := [.insr a_JSONEncoder 0]) (vs := [v]) (EvE.run XO (gtok XO) 20 [] [] (by kernel_rfl) trivial I) ?mt ?kp (.cons (st₁ := stT0V skip sk tup isk dflt v) (EvE.run XO (gtok XO) 20 [] [] (by kernel_rfl) trivial I) .nil) ((iterencV XO hmk hh hg).mono (Nat.le_succ _)) (by rfl) (by rfl) (by rfl) (by rfl)
    case mt => exact MtE.fn XO (ds := encF (EQ skip sk tup isk dflt)) rfl (by kernel_rfl) (by kernel_rfl) (by kernel_rfl) (by kernel_rfl)
    case kp => exact KpE.stat XO (by kernel_rfl)
theorem toTextV (XO : SXOk (X0 prog w hb mg mb os)) (hmk : MkIt prog w hb mg mb os skip sk tup isk dflt) (hh : isk.handed = true ∧ skip.handed = true ∧ sk.handed = true)
    (hcut : ([.dct (encF (EQ skip sk tup isk dflt))] : List MObj).all (MObj.refsLt 1) = true) {v : MVal} (hv : TopV v) {ys : List (MVal × List MObj)} {cs : List Str} (hg : GenC (X0 prog w hb mg mb os) (d + 2) (LE (EQ skip sk tup isk dflt) []) FIT csIT [v, .int 0] ys) (hy : ys.map (·.1) = cs.map MVal.str) (hz : cs.length ≤ 10000000) (hj : JoinOk "" cs = true) :
    CallsTo (X0 prog w hb mg mb os) (d + 6) (.obj (.ref a_JSONEncoder_to_text)) [.insr a_JSONEncoder 0, v] [] [.dct (encF (EQ skip sk tup isk dflt))] (.str (Txt.join "" cs)) [.dct (encF (EQ skip sk tup isk dflt))] := by
  have hl : ys.length = cs.length := by
    have := congrArg List.length hy
    simpa using this
  refine CallsTo.cut (led'' := LE (EQ skip sk tup isk dflt) []) ?_ (by simp) rfl hcut rfl
  refine CallsTo.run2 (d := d + 5) XO (gtok XO) 300 [.k 3 .next (stTTV skip sk tup isk dflt v (ys.map (·.1))), .r (.str (Txt.join "" cs))] tmIE (.ret (.str (Txt.join "" cs)))
    [∀ (env : Env) (st : St), EnvOk env → AppE (X0 prog w hb mg mb os) env (d + 5) (.obj (.builtin "str.join")) [.str (Str.ofString ""), .lst (ys.map (·.1))] [] st (.str (Txt.join "" cs)) st, true = true,
     ∀ (env : Env), Is env (cxF fd_JSONEncoder_to_text) → ExL (X0 prog w hb mg mb os) env (d + 5) (List.take 3 (fbody t_JSONEncoder_to_text)) (stT0V skip sk tup isk dflt v) MFlow.next (stTTV skip sk tup isk dflt v (ys.map (·.1)))]
    ok_JSONEncoder_to_text (by intro a b S; kernel_rfl) (by kernel_rfl) (by kernel_rfl) ⟨fun env st _ => ?_, rfl, fun env I => ttHeadV XO hmk hh I hv (by rw [hl]; exact hz) hg, trivial⟩ rfl
  rw [hy]
  exact AppE.join hj
/-- a number at the top -/
theorem genITI (XO : SXOk (X0 prog w hb mg mb os)) {n : Int} (hn : n.natAbs.log2 < 1920) :
    GenC (X0 prog w hb mg mb os) (d + 2) (LE (EQ skip sk tup isk dflt) []) FIT csIT [.int n, .int 0] [(.str (intS n), LE (EQ skip sk tup isk dflt) [])] := by
  intro A fz kp kg ρ s fv us Rz ok R hf hv q
  refine callG (d := d + 1) XO (kw := []) (ledf := LE (EQ skip sk tup isk dflt) []) (by kernel_rfl) (by kernel_rfl) rfl (by kernel_rfl) bindIT (by kernel_rfl) (by show List.Nodup [Str.ofString "o", Str.ofString "_current_indent_level"]; decide +kernel) (fun L a c' clos => ?_) (fl := .next) (.inl rfl) A fz kp kg ρ s fv us [] Rz ok R hf hv (by simp [KRels, VRels]) q
  have I : Is (envX FIT.qual FIT.scope L a (.ref c') clos) (cxC FIT) := cxC_is (by kernel_rfl) L a c' clos
  refine ⟨⟨[("o", .int n), ("_current_indent_level", .int 0)], csIT, LE (EQ skip sk tup isk dflt) []⟩, GsT.last ?_, rfl⟩
  refine GsT.ifF (c := false) (TsE.run XO (gtok XO) 20 [] [] (by kernel_rfl) trivial I) rfl rfl (GsT.last ?_)
  refine GsT.ifF (c := false) (TsE.run XO (gtok XO) 20 [] [] (by kernel_rfl) trivial I) rfl rfl (GsT.last ?_)
  refine GsT.ifF (c := false) (TsE.run XO (gtok XO) 20 [] [] (by kernel_rfl) trivial I) rfl rfl (GsT.last ?_)
  refine GsT.ifF (c := false) (TsE.run XO (gtok XO) 20 [] [] (by kernel_rfl) trivial I) rfl rfl (GsT.last ?_)
  refine GsT.ifT (c := true) (TsE.run XO (gtok XO) 20 [] [] (by kernel_rfl) trivial I) rfl rfl (GsT.last ?_)
  exact GsT.yieldI I (by kernel_rfl) (EvE.run XO (gtok XO) 20 [.v (.str (intS n)) (LE (EQ skip sk tup isk dflt) [])]
    [CallsTo (X0 prog w hb mg mb os) (d + 1) (.clo FEI csEI) [.int n] [] (LE (EQ skip sk tup isk dflt) []) (.str (intS n)) (LE (EQ skip sk tup isk dflt) [])] (by kernel_rfl) ⟨encInt (E := EQ skip sk tup isk dflt) XO hn, trivial⟩ I) rfl
end
end Mine
end
section
open PySem PySem.W PySem.Calls PyProof.Rows
set_option linter.all false
set_option maxRecDepth 100000
namespace Mine
/-- lists and tuples -/
def isSeq : MVal → Bool
  | .lst _ => true
  | .tup _ => true
  | _ => false
/-- not one object: other data, and tuples of other lengths -/
def diffS : MVal → MVal → Prop
  | .tup xs, .tup ys => xs.length ≠ ys.length
  | a, b => a ≠ b
theorem wp_isOther {M : Model} {A : Around} {E : Value → Shared → Prop} {s : Shared} {x y : Addr} {ox oy : Obj} {Q : Value → Shared → Prop} (hxy : x ≠ y) (hx : s.heap.get? x = some ox) (hy : s.heap.get? y = some oy)
    (hd : ox.cls ≠ .type "tuple" ∨ oy.cls ≠ .type "tuple" ∨ ∃ xs ys m n, ox.data = .seq xs m ∧ oy.data = .seq ys n ∧ xs.size ≠ ys.size) (h : Q (.bool false) s) : wpAny M A (compareOp .Is (.ref x) (.ref y)) Q E s := by
  show wpAny M A (do return .bool (← isSame (.ref x) (.ref y))) Q E s
  refine wpAny_bind ?_
  show wpAny M A (if (x == y) = true then pure true else _) _ E s
  rw [if_neg (by simpa using hxy)]
  refine wpAny_bind (wpAny_load hx (wpAny_bind (wpAny_load hy ?_)))
  split
  · rename_i xs n1 ys n2 e1 e2 e3 e4
    rcases hd with hd | hd | ⟨xs', ys', m, n, h1, h2, h3⟩
    · exact absurd e1 hd
    · exact absurd e2 hd
    · rw [e3] at h1; cases h1
      rw [e4] at h2; cases h2
      have hne : (xs.isEmpty && ys.isEmpty) = false := by
        rw [Bool.and_eq_false_iff]
        by_cases hx0 : xs.size = 0
        · right
          show decide (ys.size = 0) = false
          exact decide_eq_false (by omega)
        · left
          show decide (xs.size = 0) = false
          exact decide_eq_false hx0
      rw [hne]
      simp only [Bool.false_eq_true, if_false]
      unfold sameTuple
      refine wpAny_bind (wpAny_askSetting ?_)
      dsimp only
      split
      · exact wpAny_pure (wpAny_pure h)
      · split
        · exact wpAny_pure (wpAny_pure h)
        · refine wpAny_bind (wpAny_holding ?_)
          unfold sameItems
          have hs : (xs.size != ys.size) = true := by simpa using h3
          rw [if_pos hs]
          exact wpAny_pure (wpAny_pure (wpAny_pure h))
  · exact wpAny_pure (wpAny_pure h)
theorem CmpE.isDiffV {X : SX} {env : Env} {d : Nat} {st : St} {a b : MVal} (s1 : isSeq a = true) (s2 : isSeq b = true) (h1 : a.isData = true) (h2 : b.isData = true) (hne : diffS a b) : CmpE X env d .Is a b st false st := fun A fz kp kg ρ s va vb ok R ha hb Q E q => by
  have hab : a ≠ b := fun e => by
    subst e
    unfold diffS at hne
    split at hne
    · exact hne rfl
    · exact hne rfl
  have hne' : va ≠ vb := fun e => by
    subst e
    exact hab (VRel.det a b va h1 h2 ha hb)
  cases a <;> first | (cases s1; done) | skip
  · rename_i xs
    simp only [VRel] at ha
    obtain ⟨x, arr, rfl, k, r1⟩ := ha
    cases b <;> first | (cases s2; done) | skip
    · rename_i ys
      simp only [VRel] at hb
      obtain ⟨y, brr, rfl, k2, r2⟩ := hb
      refine wp_isOther (fun e => hne' (by rw [e])) (R.ifz _ _ k) (R.ifz _ _ k2) (.inr (.inr ⟨_, _, _, _, rfl, rfl, ?_⟩)) (q _ _ _ _ R (.refl _ _) rfl)
      have l1 := VRels.length r1
      have l2 := VRels.length r2
      simp only [Array.length_toList] at l1 l2
      have hne : xs.length ≠ ys.length := hne
      omega
    · simp only [VRel] at hb
      obtain ⟨y, brr, _, rfl, k2, r2⟩ := hb
      exact wp_isOther (fun e => hne' (by rw [e])) (R.ifz _ _ k) (R.ifz _ _ k2) (.inr (.inl (by simp))) (q _ _ _ _ R (.refl _ _) rfl)
  · simp only [VRel] at ha
    obtain ⟨x, arr, _, rfl, k, r1⟩ := ha
    have rb : ∃ y o, vb = .ref y ∧ s.heap.get? y = some o := by
      cases b <;> first | (cases s2; done) | skip
      · simp only [VRel] at hb
        obtain ⟨x, _, rfl, k, _⟩ := hb
        exact ⟨x, _, rfl, R.ifz _ _ k⟩
      · simp only [VRel] at hb
        obtain ⟨x, _, _, rfl, k, _⟩ := hb
        exact ⟨x, _, rfl, R.ifz _ _ k⟩
    obtain ⟨y, o2, rfl, k2⟩ := rb
    exact wp_isOther (fun e => hne' (by rw [e])) (R.ifz _ _ k) k2 (.inl (by simp)) (q _ _ _ _ R (.refl _ _) rfl)
section
variable {prog : Program} {w : World} {hb : Heap} {mg mb : Str → Option Value} {os : OsState} {d : Nat} {led : List MObj} {Q : EncQ}
abbrev stOV (E : EncP) (anc : List MVal) (v : MVal) : St := ⟨[("markers", .ref 1), ("obj", v)], [], LE E anc⟩
/-- no ancestor is this value -/
def NotOpenV (anc : List MVal) (v : MVal) : Prop := ∀ x ∈ anc, isSeq x = true ∧ x.isData = true ∧ diffS x v
theorem forOpenV {E : EncP} (XO : SXOk (X0 prog w hb mg mb os)) {env : Env} (I : Is env (cxF fd_is_open)) {anc : List MVal} {v : MVal} (hs : isSeq v = true) (hv : v.isData = true) : ∀ (xs : List MVal), NotOpenV xs v →
    ForR (X0 prog w hb mg mb os) env d (ftarg (sub t_is_open 0)) (fbody (sub t_is_open 0)) 1 anc xs (stOV E anc v) .next (stOV E anc v)
  | [], _ => .nil rfl
  | x :: xs, hx => by
    obtain ⟨h0, h1, h2⟩ := hx x List.mem_cons_self
    refine .next (b := (stOV E anc v).put "one" x) (c := (stOV E anc v).put "one" x) (f := .next) rfl (StoreE.run XO (gtok XO) 5 [] [] (by kernel_rfl) trivial I) ?_ (.inl rfl) (.weak (a' := stOV E anc v) (.of rfl rfl ⟨by kernel_rfl, by kernel_rfl, trivial⟩) (forOpenV XO I hs hv xs fun y hy => hx y (List.mem_cons_of_mem _ hy)))
    refine ExL.run XO (gtok XO) 20 [.m false] [∀ env st, EnvOk env → CmpE (X0 prog w hb mg mb os) env d .Is x v st false st] ?run ⟨fun env st _ => .isDiffV h0 hs h1 hv h2, trivial⟩ I
    cases x <;> first | (cases h0; done) | skip
    all_goals (cases v <;> first | (cases hs; done) | kernel_rfl)
theorem isopenV {E : EncP} (XO : SXOk (X0 prog w hb mg mb os)) {anc : List MVal} {v : MVal} (hs : isSeq v = true) (hv : v.isData = true) (hn : NotOpenV anc v) :
    CallsTo (X0 prog w hb mg mb os) (d + 1) (.obj (.ref a_is_open)) [.ref 1, v] [] (LE E anc) (.bool false) (LE E anc) :=
  CallsTo.run2 XO (gtok XO) 300 [.f .next (stOV E anc v)] [("markers", .arg 0), ("obj", .arg 1)] (.ret (.bool false))
    [∀ env, Is env (cxF fd_is_open) → ∃ st2, ForR (X0 prog w hb mg mb os) env d (ftarg (sub t_is_open 0)) (fbody (sub t_is_open 0)) 1 anc anc (stOV E anc v) .next st2 ∧ Sub (stOV E anc v) st2]
    ok_is_open (by intro a b S; kernel_rfl) (by kernel_rfl) (by kernel_rfl) ⟨fun env I => ⟨_, forOpenV XO I hs hv anc hn, .of rfl rfl ⟨by kernel_rfl, by kernel_rfl, trivial⟩⟩, trivial⟩ rfl
end
end Mine
end
section
open PySem PySem.W PySem.Calls PyProof.Rows
set_option linter.all false
set_option maxRecDepth 100000
namespace Mine
section
variable {X : SX} {d : Nat} {led led' : List MObj}
/-- a method of an object, called -/
theorem CallsTo.bound {f self r : MVal} {args : List MVal} {kw : List (Str × MVal)} (h : CallsTo X d f (self :: args) kw led r led') (hf : ∃ a, f = .obj (.ref a)) : CallsTo X d (.fo "method" [f, self]) args kw led r led' := by
  obtain ⟨fa, rfl⟩ := hf
  intro A fz kp kg ρ s fv vs kvs Rz ok R hfv hv hk q
  simp only [VRel, VRels] at hfv
  obtain ⟨a, arr, rfl, h1, u0, l0, e0, h2, u1, l1, rfl, h3, rfl⟩ := hfv
  subst h2
  have ha : arr = #[.ref fa, u1] := by rw [← Array.toArray_toList (xs := arr), e0]
  subst ha
  refine ks_codeAny_call_bound (R.ifz _ _ h1) ?_
  exact h A fz kp kg ρ s (.ref fa) (u1 :: vs) kvs Rz ok R (by simp [VRel]) (by simp only [VRels]; exact ⟨_, _, rfl, h3, hv⟩) hk q
theorem KpE.bound (XO : SXOk X) {f : Addr} {self : MVal} (hf : fnIn X.K f = true) : KpE X (.fo "method" [.obj (.ref f), self]) := fun fz kp kg ρ led s fv R hfv => by
  simp only [VRel, VRels] at hfv
  obtain ⟨a, arr, rfl, h1, u0, l0, e0, h2, u1, l1, rfl, h3, rfl⟩ := hfv
  subst h2
  have ha : arr = #[.ref f, u1] := by rw [← Array.toArray_toList (xs := arr), e0]
  subst ha
  exact keeps_M hf _ ⟨R.ifz _ _ h1, R.kin XO⟩
end
section
variable {prog : Program} {w : World} {hb : Heap} {mg mb : Str → Option Value} {os : OsState} {d : Nat} {led : List MObj} {Q : EncQ}
/-- the settings of a row's encoder -/
abbrev QL : EncQ := ⟨.bool false, true, .bool false, false, .none, .obj (.ref a_law_unfolded), ", ", ": "⟩
theorem defaultC (XO : SXOk (X0 prog w hb mg mb os)) {anc : List MVal} {v r : MVal} (h : CallsTo (X0 prog w hb mg mb os) d (.obj (.ref a_law_unfolded)) [v] [] (LE QL.enc anc) r (LE QL.enc anc)) :
    CallsTo (X0 prog w hb mg mb os) (d + 1) (.obj (.ref a_JSONEncoder_default)) [.insr a_JSONEncoder 0, v] [] (LE QL.enc anc) r (LE QL.enc anc) :=
  CallsTo.run2 XO (gtok XO) 300 [.v r (LE QL.enc anc)] [("self", .arg 0), ("o", .arg 1)] (.ret r)
    [CallsTo (X0 prog w hb mg mb os) d (.obj (.ref a_law_unfolded)) [v] [] (LE QL.enc anc) r (LE QL.enc anc), true = true, true = true]
    ok_JSONEncoder_default (by intro a b S; kernel_rfl) (by kernel_rfl) (by kernel_rfl) ⟨h, rfl, rfl, trivial⟩ rfl
abbrev ifE : Stmt → List Stmt
  | .If _ _ o _ => o
  | _ => []
abbrev elsN : Nat → List Stmt → List Stmt
  | 0, l => l
  | n + 1, l => match l with
    | [t] => elsN n (ifE t)
    | l => l
abbrev eB : List Stmt := elsN 8 FIT.body
abbrev eA : Stmt := (eB[1]?).getD default
abbrev stE (anc : List MVal) (v : MVal) : St := ⟨[("o", v), ("_current_indent_level", .int 0)], csIT, LE QL.enc anc⟩
abbrev callF : PySem.Expr → PySem.Expr
  | .Call f _ _ _ => f
  | _ => default
abbrev callA (k : Nat) : PySem.Expr → PySem.Expr
  | .Call _ as _ _ => (as[k]?).getD default
  | _ => default
abbrev forPos : Stmt → Pos
  | .For _ _ _ _ p => p
  | _ => default
/-- «_default(o)» -/
theorem defE (XO : SXOk (X0 prog w hb mg mb os)) {env : Env} (I : Is env (cxC FIT)) {anc : List MVal} {v r : MVal} (h : CallsTo (X0 prog w hb mg mb os) d (.obj (.ref a_law_unfolded)) [v] [] (LE QL.enc anc) r (LE QL.enc anc)) :
    EvE (X0 prog w hb mg mb os) env (d + 1) (ftest eA) (stE anc v) r (stE anc v) := by
  have e1 : EvE (X0 prog w hb mg mb os) env (d + 1) (callF (ftest eA)) (stE anc v) bdef (stE anc v) := EvE.run XO (gtok XO) 10 [] [] (by kernel_rfl) trivial I
  have e2 : EvE (X0 prog w hb mg mb os) env (d + 1) (callA 0 (ftest eA)) (stE anc v) v (stE anc v) := EvE.run XO (gtok XO) 10 [] [] (by kernel_rfl) trivial I
  exact EvE.call (pos := (ftest eA).pos) (kws := []) (args := [callA 0 (ftest eA)]) e1 (KpE.bound XO (by kernel_rfl)) (.cons e2 .nil (starEach_no (by kernel_rfl))) .nil (.of (CallsTo.bound (defaultC XO h) ⟨_, rfl⟩)) (call_ok (by kernel_rfl)) (by rw [starEach_no (by kernel_rfl)]; rfl)
theorem genITT (XO : SXOk (X0 prog w hb mg mb os)) {anc vs : List MVal} {r : MVal} {ys : List (MVal × List MObj)} (hv : allData vs = true) (hn : NotOpenV anc (.tup vs)) (hl : anc.length ≤ 1000)
    (hd : CallsTo (X0 prog w hb mg mb os) d (.obj (.ref a_law_unfolded)) [.tup vs] [] (LE QL.enc (anc ++ [.tup vs])) r (LE QL.enc (anc ++ [.tup vs]))) (hg : GenC (X0 prog w hb mg mb os) d (LE QL.enc (anc ++ [.tup vs])) FIT csIT [r, .int 0] ys) :
    GenC (X0 prog w hb mg mb os) (d + 2) (LE QL.enc anc) FIT csIT [.tup vs, .int 0] ys := by
  intro A fz kp kg ρ s fv us Rz ok R hf hv' q
  refine callG (d := d + 1) XO (kw := []) (ledf := LE QL.enc anc) (by kernel_rfl) (by kernel_rfl) rfl (by kernel_rfl) bindIT (by kernel_rfl) (by show List.Nodup [Str.ofString "o", Str.ofString "_current_indent_level"]; decide +kernel) (fun L a c' clos => ?_) (fl := .next) (.inl rfl) A fz kp kg ρ s fv us [] Rz ok R hf hv' (by simp [KRels, VRels]) q
  have I : Is (envX FIT.qual FIT.scope L a (.ref c') clos) (cxC FIT) := cxC_is (by kernel_rfl) L a c' clos
  refine ⟨stE anc r, GsT.last ?_, rfl⟩
  refine GsT.ifF (c := false) (TsE.run XO (gtok XO) 20 [] [] (by kernel_rfl) trivial I) rfl rfl (GsT.last ?_)
  refine GsT.ifF (c := false) (TsE.run XO (gtok XO) 20 [] [] (by kernel_rfl) trivial I) rfl rfl (GsT.last ?_)
  refine GsT.ifF (c := false) (TsE.run XO (gtok XO) 20 [] [] (by kernel_rfl) trivial I) rfl rfl (GsT.last ?_)
  refine GsT.ifF (c := false) (TsE.run XO (gtok XO) 20 [] [] (by kernel_rfl) trivial I) rfl rfl (GsT.last ?_)
  refine GsT.ifF (c := false) (TsE.run XO (gtok XO) 20 [] [] (by kernel_rfl) trivial I) rfl rfl (GsT.last ?_)
  refine GsT.ifF (c := false) (TsE.run XO (gtok XO) 20 [] [] (by kernel_rfl) trivial I) rfl rfl (GsT.last ?_)
  refine GsT.ifF (c := false) (TsE.run XO (gtok XO) 20 [] [] (by kernel_rfl) trivial I) rfl rfl (GsT.last ?_)
  refine GsT.ifF (c := false) (TsE.run XO (gtok XO) 20 [] [] (by kernel_rfl) trivial I) rfl rfl ?_
  refine GsT.stepR XO (gtok XO) I 30 [.v (.bool false) (LE QL.enc anc)] [anc.length ≤ 10000000, CallsTo (X0 prog w hb mg mb os) (d + 1) (.obj (.ref a_is_open)) [.ref 1, .tup vs] [] (LE QL.enc anc) (.bool false) (LE QL.enc anc)] (st₁ := stE (anc ++ [.tup vs]) (.tup vs)) (by kernel_rfl) ⟨by omega, isopenV XO rfl (by simpa [MVal.isData] using hv) hn, trivial⟩ rfl ?_
  refine GsT.stepR XO (gtok XO) I 30 [.e (ftest eA).pos r (stE (anc ++ [.tup vs]) (.tup vs))] [∀ env, Is env (cxC FIT) → EvE (X0 prog w hb mg mb os) env (d + 1) (ftest eA) (stE (anc ++ [.tup vs]) (.tup vs)) r (stE (anc ++ [.tup vs]) (.tup vs))] (st₁ := stE (anc ++ [.tup vs]) r) (by kernel_rfl) ⟨fun env I => defE XO I hd, trivial⟩ rfl ?_
  show GsT _ _ _ (execs [(eB[2]?).getD default, (eB[3]?).getD default] _) _ _ _ _
  refine GsT.castY (ys := ys ++ []) (GsT.cons (st₁ := stE (anc ++ [.tup vs]) r) ?loop ?_) (by simp)
  case loop =>
    show GsT _ _ _ (exec (.For (ftarg ((eB[2]?).getD default)) (ftest ((eB[2]?).getD default)) (fbody ((eB[2]?).getD default)) [] (forPos ((eB[2]?).getD default))) _) _ _ _ _
    refine GsT.genFor1 (x := "chunk") (st := stE (anc ++ [.tup vs]) r) (target := ftarg ((eB[2]?).getD default)) (iter := ftest ((eB[2]?).getD default)) (body := fbody ((eB[2]?).getD default)) (pos := forPos ((eB[2]?).getD default)) (ledf := LE QL.enc (anc ++ [.tup vs])) XO ?m1 (by kernel_rfl) ?t1 ?t2 (by kernel_rfl) (by intro _; rfl)
    case m1 =>
      refine MkG.call (f := .clo FIT csIT) (vs := [r, .int 0]) (EvE.run XO (gtok XO) 20 [] [] (by kernel_rfl) trivial I) KpE.clo (.cons (st₁ := stE (anc ++ [.tup vs]) r) (EvE.run XO (gtok XO) 20 [] [] (by kernel_rfl) trivial I) (.cons (st₁ := stE (anc ++ [.tup vs]) r) (EvE.run XO (gtok XO) 20 [] [] (by kernel_rfl) trivial I) .nil)) ?_
      exact fun A fz kp kg ρ s fv us Rz ok R hf hv q => hg A fz kp kg ρ s fv us Rz (ok.mono (Nat.le_succ _)) R hf hv q
    case t1 => intro st v; exact StoreE.run XO (gtok XO) 5 [] [] (by kernel_rfl) trivial I
    case t2 => intro st v; exact GsT.last (GsT.yieldI I (by kernel_rfl) (EvE.name (LdE.locF I.ok .set (by rw [I.kind]; kernel_rfl)) (by decide)) rfl)
  exact GsT.stepR XO (gtok XO) I 30 [.v (.tup vs) (LE QL.enc anc)] [∀ env, EnvOk env → AppE (X0 prog w hb mg mb os) env (d + 1) (.obj (.builtin "list.pop")) [.ref 1] [] (stE (anc ++ [.tup vs]) r) (.tup vs) (stE anc r)] (st₁ := stE anc r) (by kernel_rfl) ⟨fun env _ => AppE.pop (i := 1) (vs := anc) rfl (by omega), trivial⟩ rfl GsT.nil
end
end Mine
end
section
open PySem PySem.W PySem.Calls PyProof.Rows
set_option linter.all false
set_option maxRecDepth 100000
namespace Mine
local macro_rules | `(tactic| walk_at "sub") => `(tactic| repeat' (first | exact trivial | refine And.intro (by kernel_rfl) ?_))
section
variable {prog : Program} {w : World} {hb : Heap} {mg mb : Str → Option Value} {os : OsState} {d : Nat} {led : List MObj} {Q : EncQ}
/-- what parts give, each in its own way -/
def itemsP (sep : Str) : Bool → List (MVal × (Str → List (MVal × List MObj))) → List (MVal × List MObj)
  | _, [] => []
  | b, x :: xs => x.2 (if b then Str.ofString "[" else sep) ++ itemsP sep false xs
theorem loopP (XO : SXOk (X0 prog w hb mg mb os)) {env : Env} (I : Is env (cxC FIL)) {anc vs : List MVal}  (hs : Q.isep.length ≤ 1000) : ∀ (xs : List (MVal × (Str → List (MVal × List MObj)))) (b : Bool),
    (∀ x ∈ xs, ItemG prog w hb mg mb os (d + 1) Q anc vs x.1 x.2) →
    ∃ b', GsF (X0 prog w hb mg mb os) (d + 1) env (ftarg forL) bodyL (xs.map Prod.fst) (stLG Q anc vs b) (itemsP Q.isep b xs) (stLG Q anc vs b')
  | [], b, _ => ⟨b, .nil⟩
  | x :: xs, b, hx => by
    obtain ⟨b', h1⟩ := loopP XO I (vs := vs) hs xs false (fun y hy => hx y (List.mem_cons_of_mem _ hy))
    refine ⟨b', ?_⟩
    cases b with
    | true =>
      obtain ⟨st', g1, g2⟩ := hx x List.mem_cons_self env I (Str.ofString "[") (by decide +kernel)
      refine GsF.next (b := (stLG Q anc vs true).put "value" x.1) (c := st') (ys := x.2 (Str.ofString "[")) (f := .next) (StoreE.run XO (gtok XO) 5 [] [] (by kernel_rfl) trivial I) rfl ?_ (.inl rfl) (.weak (a' := stLG Q anc vs false) g2 h1)
      exact GsT.stepR XO (gtok XO) I 20 [] [] (st₁ := ⟨[("lst", .lst vs), ("_current_indent_level", .int 0), ("buf", .str "["), ("newline_indent", .none), ("separator", .str Q.isep), ("first", .bool false), ("value", x.1)], csIL, LE Q.enc anc⟩) (by kernel_rfl) trivial rfl (g1.sub (.of rfl rfl (by walk_at "sub")))
    | false =>
      obtain ⟨st', g1, g2⟩ := hx x List.mem_cons_self env I Q.isep hs
      refine GsF.next (b := (stLG Q anc vs false).put "value" x.1) (c := st') (ys := x.2 Q.isep) (f := .next) (StoreE.run XO (gtok XO) 5 [] [] (by kernel_rfl) trivial I) rfl ?_ (.inl rfl) (.weak (a' := stLG Q anc vs false) g2 h1)
      exact GsT.stepR XO (gtok XO) I 20 [] [] (st₁ := stVG Q anc vs Q.isep x.1) (by kernel_rfl) trivial rfl g1
theorem iterP (XO : SXOk (X0 prog w hb mg mb os)) {anc : List MVal} {x : MVal × (Str → List (MVal × List MObj))} {xs : List (MVal × (Str → List (MVal × List MObj)))}
    (hd : allData ((x :: xs).map Prod.fst) = true) (hn : CallsTo (X0 prog w hb mg mb os) (d + 1) (.obj (.ref a_is_open)) [.ref 1, .lst ((x :: xs).map Prod.fst)] [] (LE Q.enc anc) (.bool false) (LE Q.enc anc)) (hl : anc.length ≤ 1000) (hz : (x :: xs).length ≤ 1000)
    (hs : Q.isep.length ≤ 1000)
    (hg : ∀ y ∈ x :: xs, ItemG prog w hb mg mb os (d + 1) Q (anc ++ [.lst ((x :: xs).map Prod.fst)]) ((x :: xs).map Prod.fst) y.1 y.2) :
    GenC (X0 prog w hb mg mb os) (d + 2) (LE Q.enc anc) FIL csIL [.lst ((x :: xs).map Prod.fst), .int 0]
      (itemsP Q.isep true (x :: xs) ++ [(.str "]", LE Q.enc (anc ++ [.lst ((x :: xs).map Prod.fst)]))]) := by
  intro A fz kp kg ρ s fv us Rz ok R hf hv q
  refine callG (d := d + 1) XO (kw := []) (ledf := LE Q.enc anc) (by kernel_rfl) (by kernel_rfl) rfl (by kernel_rfl) bindIL (by kernel_rfl) (by show List.Nodup [Str.ofString "lst", Str.ofString "_current_indent_level"]; decide +kernel) (fun L a c' clos => ?_) (fl := .next) (.inl rfl) A fz kp kg ρ s fv us [] Rz ok R hf hv (by simp [KRels, VRels]) q
  have I : Is (envX FIL.qual FIL.scope L a (.ref c') clos) (cxC FIL) := cxC_is (by kernel_rfl) L a c' clos
  generalize hps : x :: xs = ps at hd hn hz hg ⊢
  generalize hvs : ps.map Prod.fst = vs at hd hn hg ⊢
  have hne : vs.isEmpty = false := by rw [← hvs, ← hps]; rfl
  have hz' : vs.length ≤ 1000 := by rw [← hvs]; simpa using hz
  obtain ⟨b', hF⟩ := loopP (Q := Q) XO I (vs := vs) hs ps true hg
  refine ⟨⟨locG Q vs b', csIL, LE Q.enc anc⟩, ?_, rfl⟩
  refine GsT.stepR XO (gtok XO) I 20 [.b true] [(!vs.isEmpty) = true, vs.length ≤ 10000000] (st₁ := stIG Q anc vs) (by kernel_rfl) ⟨by rw [hne]; rfl, by omega, trivial⟩ rfl ?_
  refine GsT.stepR XO (gtok XO) I 30 [.v (.bool false) (LE Q.enc anc)] [anc.length ≤ 10000000, CallsTo (X0 prog w hb mg mb os) (d + 1) (.obj (.ref a_is_open)) [.ref 1, .lst vs] [] (LE Q.enc anc) (.bool false) (LE Q.enc anc)] (st₁ := stIG Q (anc ++ [.lst vs]) vs) (by kernel_rfl) ⟨by omega, hn, trivial⟩ rfl ?_
  refine GsT.stepR XO (gtok XO) I 20 [] [] (st₁ := (stIG Q (anc ++ [.lst vs]) vs).put "buf" (.str "[")) (by kernel_rfl) trivial rfl ?_
  refine GsT.stepR XO (gtok XO) I 20 [] [] (st₁ := ⟨(locG Q vs true).take 5, csIL, LE Q.enc (anc ++ [.lst vs])⟩) (by kernel_rfl) trivial rfl ?_
  refine GsT.stepR XO (gtok XO) I 20 [] [] (st₁ := stLG Q (anc ++ [.lst vs]) vs true) (by kernel_rfl) trivial rfl ?_
  refine GsT.cons (GsT.for (v := .lst vs) (EvE.run XO (gtok XO) 10 [] [] (by kernel_rfl) trivial I) rfl IterE.lst (hvs ▸ hF) (fold_ok (by kernel_rfl))) ?_
  have k1 : ∀ b, (evN (pr (X0 prog w hb mg mb os) (d + 1)) (X0 prog w hb mg mb os) (d + 1) G0 20).S (cxC FIL) (sub t_il 6) (stLG Q (anc ++ [.lst vs]) vs b) ⟨[], []⟩ = some (.next, stLG Q (anc ++ [.lst vs]) vs b, ⟨[], []⟩) := by
    intro b; cases b <;> kernel_rfl
  refine GsT.step (ExS.run XO (gtok XO) 20 [] [] (k1 b') trivial I) rfl ?_
  refine GsT.castY (GsT.cons (zs := []) (GsT.yieldI I (by kernel_rfl) EvE.cstr rfl) ?_) (by rfl)
  have k2 : ∀ b, (evN (pr (X0 prog w hb mg mb os) (d + 1)) (X0 prog w hb mg mb os) (d + 1) G0 30).S (cxC FIL) (sub t_il 8) (stLG Q (anc ++ [.lst vs]) vs b) ⟨[.v (.lst vs) (LE Q.enc anc)], []⟩ = some (.next, ⟨locG Q vs b, csIL, LE Q.enc anc⟩, ⟨[], [∀ env, EnvOk env → AppE (X0 prog w hb mg mb os) env (d + 1) (.obj (.builtin "list.pop")) [.ref 1] [] (stLG Q (anc ++ [.lst vs]) vs b) (.lst vs) ((stLG Q (anc ++ [.lst vs]) vs b).wled (LE Q.enc anc))]⟩) := by
    intro b; cases b <;> kernel_rfl
  refine GsT.step (ExS.run XO (gtok XO) 30 _ _ (k2 b') ⟨fun env _ => ?_, trivial⟩ I) rfl GsT.nil
  exact AppE.pop (i := 1) (vs := anc) rfl (by omega)
end
end Mine
end
section
open PySem PySem.W PySem.Calls PyProof.Rows
set_option linter.all false
set_option maxRecDepth 100000
namespace Mine
local macro_rules | `(tactic| walk_at "sub") => `(tactic| repeat' (first | exact trivial | refine And.intro (by kernel_rfl) ?_))
def chunksU : U → List Str
  | .e => [Str.ofString "[]"]
  | .t l g r => (Str.ofString "[" :: chunksU l) ++ ([Str.ofString ", " ++ intS g] ++ ((Str.ofString ", " :: chunksU r) ++ [Str.ofString "]"]))
def txtU : U → List Nat
  | .e => [91, 93]
  | .t l g r => 91 :: (sepT true [txtU l, digs g, txtU r] ++ [93])
theorem chunksU_flat : ∀ u, flatC (chunksU u) = txtU u
  | .e => by show flatC [Str.ofString "[]"] = [91, 93]; decide +kernel
  | .t l g r => by
    have e1 : (Str.ofString "[").cps.toList = [91] := by decide +kernel
    have e2 : (Str.ofString ", ").cps.toList = [44, 32] := by decide +kernel
    have e3 : (Str.ofString "]").cps.toList = [93] := by decide +kernel
    have h1 := chunksU_flat l
    have h2 := chunksU_flat r
    have h3 : (Str.ofString ", " ++ intS g).cps.toList = [44, 32] ++ digs g := by rw [PySem.Str.cps_append, Array.toList_append, e2, digs_is]
    simp only [flatC] at h1 h2
    simp [chunksU, txtU, flatC, sepT, e1, e2, e3, h1, h2, h3]
section
variable {prog : Program} {w : World} {hb : Heap} {mg mb : Str → Option Value} {os : OsState} {d : Nat} {led : List MObj} {Q : EncQ}
theorem itemTup (XO : SXOk (X0 prog w hb mg mb os)) {anc vs ws : List MVal} {ys : List (MVal × List MObj)} (hg : GenC (X0 prog w hb mg mb os) d (LE QL.enc anc) FIT csIT [.tup ws, .int 0] ys) :
    ItemG prog w hb mg mb os (d + 1) QL anc vs (.tup ws) (fun bf => (.str bf, LE QL.enc anc) :: ys) := by
  intro env I bf hb'
  refine ⟨stVG QL anc vs bf (.tup ws), ?_, .of rfl rfl (by walk_at "sub")⟩
  refine GsT.last (GsT.ifF (c := false) (TsE.run XO (gtok XO) 20 [] [] (by kernel_rfl) trivial I) rfl rfl (GsT.last ?_))
  refine GsT.ifF (c := false) (TsE.run XO (gtok XO) 20 [] [] (by kernel_rfl) trivial I) rfl rfl (GsT.last ?_)
  refine GsT.ifF (c := false) (TsE.run XO (gtok XO) 20 [] [] (by kernel_rfl) trivial I) rfl rfl (GsT.last ?_)
  refine GsT.ifF (c := false) (TsE.run XO (gtok XO) 20 [] [] (by kernel_rfl) trivial I) rfl rfl (GsT.last ?_)
  refine GsT.ifF (c := false) (TsE.run XO (gtok XO) 20 [] [] (by kernel_rfl) trivial I) rfl rfl ?_
  refine GsT.castY (GsT.cons (ys := [(.str bf, LE QL.enc anc)]) (GsT.yieldI I (by kernel_rfl) (EvE.run XO (gtok XO) 20 [] [] (by kernel_rfl) trivial I) rfl)
    (GsT.genFor (p := ⟨0, 0, 0, 0⟩) (ys := ys) (ledf := LE QL.enc anc) XO I.ok (x := "chunk") (y := "chunks") ?m0 (by kernel_rfl) ?t1 ?t2 ?t3 (by kernel_rfl) (by kernel_rfl) (by decide) rfl GsT.nil)) (by simp)
  case m0 =>
    refine MkS.ifF (c := false) (TsE.run XO (gtok XO) 20 [] [] (by kernel_rfl) trivial I) rfl (MkS.one ?_)
    refine MkS.ifF (c := false) (TsE.run XO (gtok XO) 20 [] [] (by kernel_rfl) trivial I) rfl (MkS.one ?_)
    refine MkS.ifF (c := false) (TsE.run XO (gtok XO) 20 [] [] (by kernel_rfl) trivial I) rfl (MkS.one (MkS.assign I.ok ?_ (by rw [I.kind]; kernel_rfl)))
    refine MkG.call (f := .clo FIT csIT) (vs := [.tup ws, .int 0]) (EvE.run XO (gtok XO) 20 [] [] (by kernel_rfl) trivial I) KpE.clo (.cons (st₁ := stVG QL anc vs bf (.tup ws)) (EvE.run XO (gtok XO) 20 [] [] (by kernel_rfl) trivial I) (.cons (st₁ := stVG QL anc vs bf (.tup ws)) (EvE.run XO (gtok XO) 20 [] [] (by kernel_rfl) trivial I) .nil)) ?_
    exact fun A fz kp kg ρ s fv us Rz ok R hf hv q => hg A fz kp kg ρ s fv us Rz (ok.mono (Nat.le_succ _)) R hf hv q
  case t1 => intro st v; exact StoreE.run XO (gtok XO) 5 [] [] (by kernel_rfl) trivial I
  case t2 => intro st v; exact GsT.last (GsT.yieldI I (by kernel_rfl) (EvE.name (LdE.locF I.ok .set (by rw [I.kind]; kernel_rfl)) (by decide)) rfl)
  case t3 => intro st v; exact EvE.name (LdE.locF I.ok .set (by rw [I.kind]; kernel_rfl)) (by decide)
theorem GenC.mono {X : SX} {d d' : Nat} {led : List MObj} {F : CloF} {cs : List (Str × Nat)} {args : List MVal} {ys : List (MVal × List MObj)} (h : GenC X d led F cs args ys) (hd : d ≤ d') (hg : ∀ {fz prI gs ρ}, GenIs X d led ρ ys led fz prI nil_ gs → GenIs X d' led ρ ys led fz prI nil_ gs) : GenC X d' led F cs args ys :=
  fun A fz kp kg ρ s fv us Rz ok R hf hv q => h A fz kp kg ρ s fv us Rz (ok.mono hd) R hf hv fun fz' g gs a prI s' g1 G hv dp hk R' => q fz' g gs a prI s' g1 (hg G) hv dp hk R'
/-- how great a value of the open ones is -/
def mz : MVal → Nat
  | .tup vs => vs.length
  | .lst [.tup a, _, .tup b] => a.length + b.length + 1
  | _ => 0
def AncU (anc : List MVal) (n : Nat) : Prop := ∀ x ∈ anc, isSeq x = true ∧ x.isData = true ∧ n < mz x
theorem AncU.tup {anc : List MVal} {row : List Int} (h : AncU anc row.length) : NotOpenV anc (.tup (I2 row)) := fun x hx => by
  obtain ⟨h1, h2, h3⟩ := h x hx
  refine ⟨h1, h2, ?_⟩
  cases x <;> first | (cases h1; done) | skip
  · rename_i ws
    show ws.length ≠ (I2 row).length
    have : row.length < ws.length := h3
    simp only [List.length_map]
    omega
  · intro q; cases q
theorem AncU.lst {anc : List MVal} {a b : List Int} {g : Int} (h : AncU anc (a ++ [g] ++ b).length) : NotOpenV (anc ++ [.tup (I2 (a ++ [g] ++ b))]) (.lst [.tup (I2 a), .int g, .tup (I2 b)]) := fun x hx => by
  rcases List.mem_append.mp hx with hx | hx
  · obtain ⟨h1, h2, h3⟩ := h x hx
    refine ⟨h1, h2, ?_⟩
    cases x <;> first | (cases h1; done) | skip
    · intro q; cases q
    · intro q
      rw [q] at h3
      have h3 : (a ++ [g] ++ b).length < (I2 a).length + (I2 b).length + 1 := h3
      simp only [List.length_append, List.length_map, List.length_cons, List.length_nil] at h3
      omega
  · have e := List.mem_singleton.mp hx
    subst e
    exact ⟨rfl, data_ints _, by intro q; cases q⟩
theorem AncU.kid {anc : List MVal} {a b : List Int} {g : Int} {m : Nat} (h : AncU anc (a ++ [g] ++ b).length) (hm : m < (a ++ [g] ++ b).length) : AncU (anc ++ [.tup (I2 (a ++ [g] ++ b))] ++ [.lst [.tup (I2 a), .int g, .tup (I2 b)]]) m := fun x hx => by
  rcases List.mem_append.mp hx with hx | hx
  · rcases List.mem_append.mp hx with hx | hx
    · obtain ⟨h1, h2, h3⟩ := h x hx
      exact ⟨h1, h2, by omega⟩
    · have e := List.mem_singleton.mp hx
      subst e
      refine ⟨rfl, data_ints _, ?_⟩
      show m < (I2 (a ++ [g] ++ b)).length
      simpa using hm
  · have e := List.mem_singleton.mp hx
    subst e
    refine ⟨rfl, by simp [MVal.isData, allData, data_ints], ?_⟩
    show m < (I2 a).length + (I2 b).length + 1
    simp only [List.length_append, List.length_map, List.length_cons, List.length_nil] at hm ⊢
    omega
theorem allData_of : ∀ {vs : List MVal}, (∀ x ∈ vs, x.isData = true) → allData vs = true
  | [], _ => rfl
  | x :: xs, h => by
    simp only [allData, h x List.mem_cons_self, allData_of fun y hy => h y (List.mem_cons_of_mem _ hy)]; rfl
theorem refs_LE {anc : List MVal} (h : allData anc = true) : (LE QL.enc anc).all (MObj.refsLt (LE QL.enc anc).length) = true := by
  have e : (LE QL.enc anc).all (MObj.refsLt (LE QL.enc anc).length) = (true && (belows 17 anc && true)) := by kernel_rfl
  rw [e, (datas_sh 17 _ h).2]; rfl
theorem AncU.data {anc : List MVal} {n : Nat} {vs : List Int} (h : AncU anc n) : allData (anc ++ [.tup (I2 vs)]) = true := allData_of fun x hx => by
  rcases List.mem_append.mp hx with hx | hx
  · exact (h x hx).2.1
  · have e := List.mem_singleton.mp hx
    subst e
    exact data_ints _
/-- numbers that are told -/
def NumT (i : Int) : Prop := i.natAbs.log2 < 1920 ∧ (intS i).length ≤ 2000 ∧ i.natAbs < 2 ^ 60
theorem genU (XO : SXOk (X0 prog w hb mg mb os)) : ∀ (u : U) (n : Nat) (anc : List MVal), u.row.length ≤ n → AncU anc u.row.length → anc.length + 2 * n ≤ 900 → u.ok → u.row.length ≤ 60 → (∀ i ∈ u.row, NumT i) →
    ∃ D ys, D = d + 5 + 6 * n ∧ GenC (X0 prog w hb mg mb os) D (LE QL.enc anc) FIT csIT [.tup (I2 u.row), .int 0] ys ∧ ys.map (·.1) = (chunksU u).map MVal.str
  | .e, n, anc, _, ha, hl, _, _, _ => by
    have hall : (LE QL.enc (anc ++ [.tup (I2 [])])).all (MObj.refsLt (LE QL.enc (anc ++ [.tup (I2 [])])).length) = true := refs_LE ha.data
    have h1 := iterL0G (d := d + 6 * n) (Q := QL) XO (anc := anc ++ [.tup (I2 [])])
    have h2 := genITG (skip := .bool false) (sk := .bool false) (tup := false) (isk := .none) (dflt := .obj (.ref a_law_unfolded)) XO h1
    have h3 := genITT (d := d + 6 * n + 1 + 2) XO (anc := anc) (vs := I2 []) (r := .lst []) rfl ha.tup (by omega) (unfold0 XO hall) h2
    have e : d + 6 * n + 1 + 2 + 2 = d + 5 + 6 * n := by omega
    exact ⟨_, _, e, h3, rfl⟩
  | .t l g r, 0, anc, h, _, _, _, _, _ => by simp [U.row] at h
  | .t l g r, n + 1, anc, hn, ha, hl, hok, h60, hB => by
    obtain ⟨o1, o2, o3, o4⟩ := hok
    have hrow : (U.t l g r).row = l.row ++ [g] ++ r.row := rfl
    rw [hrow] at hn ha h60 hB ⊢
    have hlen : (l.row ++ [g] ++ r.row).length = l.row.length + 1 + r.row.length := by simp; omega
    have hall : (LE QL.enc (anc ++ [.tup (I2 (l.row ++ [g] ++ r.row))])).all (MObj.refsLt (LE QL.enc (anc ++ [.tup (I2 (l.row ++ [g] ++ r.row))])).length) = true := refs_LE ha.data
    obtain ⟨D1, ys1, e1, g1, c1⟩ := genU XO l n (anc ++ [.tup (I2 (l.row ++ [g] ++ r.row))] ++ [.lst [.tup (I2 l.row), .int g, .tup (I2 r.row)]]) (by omega) (ha.kid (by omega)) (by simp; omega) o3 (by omega) (fun i hi => hB i (by simp [hi]))
    obtain ⟨D2, ys2, e2, g2, c2⟩ := genU XO r n (anc ++ [.tup (I2 (l.row ++ [g] ++ r.row))] ++ [.lst [.tup (I2 l.row), .int g, .tup (I2 r.row)]]) (by omega) (ha.kid (by omega)) (by simp; omega) o4 (by omega) (fun i hi => hB i (by simp [hi]))
    subst e1
    subst e2
    obtain ⟨b1, b2, b3⟩ := hB g (by simp)
    have hd : allData [.tup (I2 l.row), .int g, .tup (I2 r.row)] = true := by simp [allData, MVal.isData, data_ints]
    generalize hA : anc ++ [.tup (I2 (l.row ++ [g] ++ r.row))] = anc1 at hall g1 g2
    generalize hA2 : anc1 ++ [.lst [.tup (I2 l.row), .int g, .tup (I2 r.row)]] = anc2 at g1 g2
    have hn2 : NotOpenV anc1 (.lst [.tup (I2 l.row), .int g, .tup (I2 r.row)]) := hA ▸ ha.lst
    have k := iterP (d := d + 5 + 6 * n) (Q := QL) XO (anc := anc1) (x := (.tup (I2 l.row), fun bf => (.str bf, LE QL.enc anc2) :: ys1)) (xs := [(.int g, fun bf => [(.str (bf ++ intS g), LE QL.enc anc2)]), (.tup (I2 r.row), fun bf => (.str bf, LE QL.enc anc2) :: ys2)])
      hd (isopenV XO rfl (by simp [MVal.isData, allData, data_ints]) hn2) (by rw [← hA]; simp; omega) (by simp) (by decide +kernel) (by
        intro y hy
        simp only [List.map_cons, List.map_nil, hA2]
        simp only [List.mem_cons, List.not_mem_nil, or_false] at hy
        rcases hy with rfl | rfl | rfl
        · exact itemTup XO g1
        · exact itemInt XO b1 b2
        · exact itemTup XO g2)
    have h2 := genITG (skip := .bool false) (sk := .bool false) (tup := false) (isk := .none) (dflt := .obj (.ref a_law_unfolded)) XO k
    rw [← hA] at h2
    have h3 := genITT (d := d + 5 + 6 * n + 2 + 2) XO (anc := anc) (vs := I2 (l.row ++ [g] ++ r.row)) (r := .lst [.tup (I2 l.row), .int g, .tup (I2 r.row)]) (data_ints _) ha.tup (by omega) (unfold1 XO (hA ▸ hall) o1 o2 h60 (fun x hx => (hB x hx).2.2)) h2
    refine ⟨_, _, ?_, h3, ?_⟩
    · omega
    · simp only [itemsP, List.map_append, List.map_cons, List.map_nil, c1, c2, chunksU]
      simp
end
end Mine
end
section
open PySem PySem.W PySem.Calls PyProof.Rows
set_option linter.all false
set_option maxRecDepth 100000
namespace Mine
section
variable {prog : Program} {w : World} {hb : Heap} {mg mb : Str → Option Value} {os : OsState} {d : Nat} {led : List MObj}
theorem mkItL (XO : SXOk (X0 prog w hb mg mb os)) : MkIt prog w hb mg mb os (.bool false) (.bool false) false .none (.obj (.ref a_law_unfolded)) := fun d =>
  CallsTo.run2 XO (gtok XO) 300 [] tmMk (.ret (.clo FIT (csOfE FIT))) [] ok_make_iterencode (by intro a b c d e f g h i j k S; kernel_rfl) (by kernel_rfl) (by kernel_rfl) trivial rfl
def txtS (u : U) : Str := Txt.join "" (chunksU u)
theorem txtS_cps (u : U) : (txtS u).cps.toList = txtU u := by rw [txtS, join_cps, chunksU_flat]
theorem chunksU_len : ∀ u : U, (chunksU u).length ≤ 6 * u.row.length + 1
  | .e => by simp [chunksU, U.row]
  | .t l g r => by
    have h1 := chunksU_len l
    have h2 := chunksU_len r
    simp [chunksU, U.row]
    omega
theorem tellU (XO : SXOk (X0 prog w hb mg mb os)) {u : U} (hok : u.ok) (hn : u.row.length ≤ 5) (hB : ∀ i ∈ u.row, NumT i) (hlen : (txtU u).length ≤ 100000) :
    CallsTo (X0 prog w hb mg mb os) (d + 50) (.obj (.ref a_JSONEncoder_to_text)) [.insr a_JSONEncoder 0, .tup (I2 u.row)] [] [.dct (encF QL.enc)] (.str (txtS u)) [.dct (encF QL.enc)] := by
  obtain ⟨D, ys, e, hg, hy⟩ := genU (d := d + 7) XO u 5 [] hn (fun x hx => by cases hx) (by simp) hok (by omega) hB
  have e' : D = d + 40 + 2 := by omega
  rw [e'] at hg
  have hl := chunksU_len u
  have h := toTextV (d := d + 40) (v := .tup (I2 u.row)) (cs := chunksU u) XO (mkItL XO) ⟨rfl, rfl, rfl⟩ (by kernel_rfl) (.inr (.inr ⟨_, rfl⟩)) hg hy (by omega) (joinOk_of (by rw [chunksU_flat]; omega))
  exact CallsTo.mono h (by omega)
/-- the encoder of rows, made -/
abbrev tmEncL : List (Str × Tm) := [("self", .arg 0), ("skipkeys", .val df_JSONEncoder__init__0), ("ensure_ascii", .val df_JSONEncoder__init__1), ("check_circular", .val df_JSONEncoder__init__2), ("sort_keys", .val df_JSONEncoder__init__3), ("indent", .val df_JSONEncoder__init__4), ("separators", .val df_JSONEncoder__init__5), ("default", .kw 0), ("tuple_as_array", .kw 1), ("bigint_as_string", .val df_JSONEncoder__init__8), ("item_sort_key", .val df_JSONEncoder__init__9), ("int_as_string_bitcount", .val df_JSONEncoder__init__10)]
theorem encInitL (XO : SXOk (X0 prog w hb mg mb os)) : CallsTo (X0 prog w hb mg mb os) (d + 1) (.obj (.ref a_JSONEncoder__init_)) [.insr a_JSONEncoder 0] [("default", .obj (.ref a_law_unfolded)), ("tuple_as_array", .bool false)] [.dct []] .none [.dct (encF QL.enc)] :=
  CallsTo.run2 XO (gtok XO) 300 [] tmEncL .next [] ok_JSONEncoder__init_ (by intro a b c S; kernel_rfl) (by kernel_rfl) (by kernel_rfl) trivial rfl
theorem encMakeL (XO : SXOk (X0 prog w hb mg mb os)) :
    CallsTo (X0 prog w hb mg mb os) (d + 2) (.obj (.ref a_JSONEncoder)) [] [("default", .obj (.ref a_law_unfolded)), ("tuple_as_array", .bool false)] led (.insr a_JSONEncoder led.length) (led ++ [.dct (encF QL.enc)]) := by
  refine CallsTo.make XO (fI := a_JSONEncoder__init_) (by kernel_rfl) (by kernel_rfl) (by kernel_rfl) ?_
  have := (encInitL (d := d) XO).shift led
  simpa [shs, MVal.sh, MObj.sh] using this
-- read back
theorem refs_LD : (LD DL).all (MObj.refsLt (LD DL).length) = true := by kernel_rfl
theorem rdU (XO : SXOk (X0 prog w hb mg mb os)) {s : Str} (hz : s.length ≤ 10000000) : ∀ (u : U) (n : Nat), u.row.length ≤ n → n ≤ 100 → (∀ i ∈ u.row, NumOk i) → Rd prog w hb mg mb os (d + 3 + 2 * n) s (txtU u) (.lst (I2 u.rd)) ∧ u.rd.length = u.row.length
  | .e, n, _, _, _ => ⟨(Rd.nil (d := d + 1) XO hz (folded0 XO refs_LD)).mono (by omega), rfl⟩
  | .t l g r, 0, h, _, _ => by simp [U.row] at h
  | .t l g r, n + 1, h, hn, hN => by
    simp only [U.row, List.length_append, List.length_cons, List.length_nil] at h
    obtain ⟨h1, l1⟩ := rdU XO hz l n (by omega) (by omega) (fun i hi => hN i (by simp [U.row, hi]))
    obtain ⟨h2, l2⟩ := rdU XO hz r n (by omega) (by omega) (fun i hi => hN i (by simp [U.row, hi]))
    have hg : Rd prog w hb mg mb os (d + 3 + 2 * n) s (digs g) (.int g) := (Rd.num (d := d + 2 + 2 * n) XO hz (hN g (by simp [U.row])) (fun _ _ _ => .intN (hN g (by simp [U.row])))).mono (by omega)
    have hd : allData [.lst (I2 l.rd), .int g, .lst (I2 r.rd)] = true := by simp [allData, MVal.isData, data_ints]
    have hk := folded1 (d := d + 2 + 2 * n) (led := LD DL) (a := I2 l.rd) (b := I2 r.rd) (g := g) XO refs_LD (data_ints _) (data_ints _) (by simp; omega)
    have k := Rd.arr (d := d + 3 + 2 * n) (s := s) (x := (txtU l, .lst (I2 l.rd))) (xs := [(digs g, .int g), (txtU r, .lst (I2 r.rd))]) (r := .lst (I2 l.rd ++ I2 r.rd ++ [.int g])) XO hz (by simp) (by
      intro y hy
      simp only [List.mem_cons, List.not_mem_nil, or_false] at hy
      rcases hy with rfl | rfl | rfl
      · exact h1
      · exact hg
      · exact h2) hd (by
      have e : d + 2 + 2 * n + 1 = d + 3 + 2 * n := by omega
      exact e ▸ hk)
    have e1 : I2 l.rd ++ I2 r.rd ++ [.int g] = I2 (U.t l g r).rd := by simp [U.rd, I2]
    rw [e1] at k
    have e2 : d + 3 + 2 * n + 2 = d + 3 + 2 * (n + 1) := by omega
    rw [e2] at k
    refine ⟨k, ?_⟩
    simp only [U.rd, U.row, List.length_append, List.length_cons, List.length_nil]
    omega
theorem readU (XO : SXOk (X0 prog w hb mg mb os)) {u : U} (hn : u.row.length ≤ 5) (hN : ∀ i ∈ u.row, NumOk i) (hlen : (txtU u).length ≤ 100000) :
    CallsTo (X0 prog w hb mg mb os) (d + 16) (.obj (.ref a_JSONDecoder_from_text)) [.insr a_JSONDecoder 0, .str (txtS u)] [] (LD DL) (.lst (I2 u.rd)) (LD DL) := by
  have hl : (txtS u).length = (txtU u).length := by rw [← txtS_cps]; rfl
  exact (rdU (d := d) XO (s := txtS u) (by omega) u 5 hn (by omega) hN).1.from XO (by omega) (txtS_cps u)
end
end Mine
end
section
open PySem PySem.W PySem.Calls PyProof.Rows
set_option linter.all false
set_option maxRecDepth 100000
namespace Mine
-- the plain law of a row
theorem popAll_all {x : Int} : ∀ {s t o : List Int}, (∀ a ∈ s, a < x) → (∀ a ∈ t.head?, x ≤ a) → popAll x (s ++ t) o = (t, o ++ s)
  | [], [], o, _, _ => by simp [popAll]
  | [], a :: t, o, _, h => by
    have := h a (by simp)
    simp [popAll, show ¬ a < x by omega]
  | a :: s, t, o, h1, h2 => by
    have ha := h1 a List.mem_cons_self
    have ih := popAll_all (s := s) (t := t) (o := o ++ [a]) (fun b hb => h1 b (List.mem_cons_of_mem _ hb)) h2
    show popAll x (a :: (s ++ t)) o = _
    rw [popAll, if_pos ha, ih]
    simp
theorem runU : ∀ (u : U), u.ok → ∃ s' o', o' ++ s' = u.rd ∧ (∀ a ∈ s', a ∈ u.row) ∧ ∀ s o, (∀ t ∈ s.head?, ∀ a ∈ u.row, a ≤ t) → u.row.foldl pStep (s, o) = (s' ++ s, o ++ o')
  | .e, _ => ⟨[], [], rfl, by simp, by simp [U.row]⟩
  | .t l g r, ⟨h1, h2, h3, h4⟩ => by
    obtain ⟨sl, ol, e1, m1, r1⟩ := runU l h3
    obtain ⟨sr, or', e2, m2, r2⟩ := runU r h4
    refine ⟨sr ++ [g], ol ++ sl ++ or', ?_, ?_, ?_⟩
    · simp only [U.rd, ← e1, ← e2, List.append_assoc]
    · intro a ha
      simp only [U.row, List.mem_append, List.mem_singleton] at ha ⊢
      rcases ha with ha | ha
      · exact .inr (m2 a ha)
      · exact .inl (.inr ha)
    · intro s o hs
      simp only [U.row, List.foldl_append, List.foldl_cons, List.foldl_nil]
      rw [r1 s o (fun t ht a ha => hs t ht a (by simp [U.row, ha]))]
      have hp := popAll_all (x := g) (s := sl) (t := s) (o := o ++ ol) (fun a ha => h1 a (m1 a ha)) (fun a ha => hs a ha g (by simp [U.row]))
      have hstep : pStep (sl ++ s, o ++ ol) g = (g :: s, o ++ ol ++ sl) := by unfold pStep; rw [hp]
      rw [hstep, r2 (g :: s) (o ++ ol ++ sl) (fun t ht a ha => by
        simp only [List.head?_cons, Option.mem_def, Option.some.injEq] at ht
        subst ht
        exact h2 a ha)]
      simp
theorem passed_rd {u : U} (h : u.ok) : passed u.row = u.rd := by
  obtain ⟨s', o', e, _, r⟩ := runU u h
  have := r [] [] (by simp)
  unfold passed
  rw [this, ← e]
  simp
/-- every row unfolds -/
theorem idx_split {g : Int} : ∀ {l : List Int}, g ∈ l → ∃ a b, l = a ++ [g] ++ b ∧ g ∉ a
  | x :: l, h => by
    by_cases q : x = g
    · exact ⟨[], l, by simp [q], by simp⟩
    · have : g ∈ l := by
        rcases List.mem_cons.mp h with e | h
        · exact absurd e.symm q
        · exact h
      obtain ⟨a, b, e, hn⟩ := idx_split this
      exact ⟨x :: a, b, by simp [e], by simp [hn]; exact fun e => q e.symm⟩
theorem unfU : ∀ (n : Nat) (xs : List Int), xs.length ≤ n → ∃ u : U, u.row = xs ∧ u.ok
  | 0, xs, h => ⟨.e, by simp at h; simp [U.row, h], trivial⟩
  | n + 1, [], _ => ⟨.e, rfl, trivial⟩
  | n + 1, x :: xs, h => by
    obtain ⟨hm, hmax⟩ := mx_mem (l := x :: xs) (by simp)
    obtain ⟨a, b, e, hn⟩ := idx_split hm
    have hl : a.length + 1 + b.length = (x :: xs).length := by rw [e]; simp; omega
    obtain ⟨ua, ea, oa⟩ := unfU n a (by simp only [List.length_cons] at h hl; omega)
    obtain ⟨ub, eb, ob⟩ := unfU n b (by simp only [List.length_cons] at h hl; omega)
    refine ⟨.t ua (mx (x :: xs)) ub, by rw [U.row, ea, eb]; exact e.symm, fun y hy => ?_, fun y hy => ?_, oa, ob⟩
    · rw [ea] at hy
      have h1 := hmax y (by rw [e]; simp [hy])
      have h2 : y ≠ mx (x :: xs) := fun q => hn (q ▸ hy)
      omega
    · rw [eb] at hy
      exact hmax y (by rw [e]; simp [hy])
theorem rd_perm : ∀ u : U, u.rd.Perm u.row
  | .e => .refl _
  | .t l g r => by
    simp only [U.rd, U.row]
    have h1 := rd_perm l
    have h2 := rd_perm r
    have : (l.rd ++ r.rd ++ [g]).Perm (l.rd ++ [g] ++ r.rd) := by
      rw [List.append_assoc, List.append_assoc]
      exact List.Perm.append_left _ List.perm_append_comm
    exact this.trans ((h1.append_right _).append h2)
theorem passed_perm (xs : List Int) : (passed xs).Perm xs := by
  obtain ⟨u, rfl, h⟩ := unfU xs.length xs (Nat.le_refl _)
  rw [passed_rd h]
  exact rd_perm u
abbrev Asc (l : List Int) : Prop := l.Pairwise (· ≤ ·)
theorem asc_sort {l m : List Int} (h : Asc l) (p : l.Perm m) : l = sortI m :=
  List.Perm.eq_of_pairwise (fun a b _ _ h1 h2 => Int.le_antisymm h1 h2) h (sortI_rises m) (p.trans (sortI_perm m).symm)
theorem asc_iff {xs : List Int} : passed xs = sortI xs ↔ Asc (passed xs) :=
  ⟨fun e => e ▸ sortI_rises xs, fun h => asc_sort h (passed_perm xs)⟩
/-- a last number that is the greatest stays the last -/
theorem passed_last {ys : List Int} {t : Int} (h : ∀ a ∈ ys, a ≤ t) : passed (ys ++ [t]) = passed ys ++ [t] := by
  have gen : ∀ (s o : List Int), (∀ a ∈ s, a ≤ t) → Asc s → (popAll t s o).2 ++ (t :: (popAll t s o).1) = o ++ s ++ [t] := by
    intro s
    induction s with
    | nil => intro o _ _; simp [popAll]
    | cons a r ih =>
      intro o hs ha
      unfold popAll
      split
      · rename_i hlt
        rw [ih (o ++ [a]) (fun b hb => hs b (List.mem_cons_of_mem _ hb)) (List.pairwise_cons.mp ha).2]
        simp
      · rename_i hge
        have e : a = t := by have := hs a List.mem_cons_self; omega
        have hr : ∀ b ∈ r, b = t := fun b hb => by
          have h1 := (List.pairwise_cons.mp ha).1 b hb
          have h2 := hs b (List.mem_cons_of_mem _ hb)
          omega
        have hrep : r = List.replicate r.length t := List.eq_replicate_iff.mpr ⟨rfl, hr⟩
        subst e
        show o ++ (a :: a :: r) = o ++ a :: r ++ [a]
        rw [hrep, List.append_assoc]
        congr 1
        rw [List.cons_append, ← List.replicate_succ, ← List.replicate_succ']
  -- the stack rises from its top
  have st : ∀ (xs s o : List Int), Asc s → Asc (xs.foldl pStep (s, o)).1 := by
    have pop : ∀ (x : Int) (s o : List Int), Asc s → Asc (x :: (popAll x s o).1) := by
      intro x s
      induction s with
      | nil => intro o _; simp [popAll]
      | cons a r ih =>
        intro o ha
        unfold popAll
        split
        · exact ih _ (List.pairwise_cons.mp ha).2
        · rename_i hge
          refine List.pairwise_cons.mpr ⟨fun b hb => ?_, ha⟩
          rcases List.mem_cons.mp hb with rfl | hb
          · omega
          · have := (List.pairwise_cons.mp ha).1 b hb
            omega
    intro xs
    induction xs with
    | nil => intro s o h; exact h
    | cons x xs ih => intro s o h; exact ih _ _ (pop x s o h)
  unfold passed
  rw [List.foldl_append, List.foldl_cons, List.foldl_nil]
  have hperm := passed_perm ys
  have hs := st ys [] [] .nil
  have hmem : ∀ a ∈ (ys.foldl pStep ([], [])).1, a ≤ t := fun a ha => h a (hperm.mem_iff.mp (by unfold passed; exact List.mem_append_right _ ha))
  generalize ys.foldl pStep ([], []) = q at hs hmem
  obtain ⟨s, o⟩ := q
  exact gen s o hmem hs
def itp : Nat → List Int → List Int
  | 0, xs => xs
  | n + 1, xs => itp n (passed xs)
theorem itp_perm : ∀ (n : Nat) (xs : List Int), (itp n xs).Perm xs
  | 0, xs => .refl _
  | n + 1, xs => (itp_perm n _).trans (passed_perm xs)
theorem itp_last : ∀ (n : Nat) {ys : List Int} {t : Int}, (∀ a ∈ ys, a ≤ t) → itp n (ys ++ [t]) = itp n ys ++ [t]
  | 0, _, _, _ => rfl
  | n + 1, ys, t, h => by
    show itp n (passed (ys ++ [t])) = itp n (passed ys) ++ [t]
    rw [passed_last h]
    exact itp_last n fun a ha => h a ((passed_perm ys).mem_iff.mp ha)
theorem passed_end : ∀ {xs : List Int}, xs ≠ [] → ∃ ys t, passed xs = ys ++ [t] ∧ ∀ a ∈ ys, a ≤ t := by
  intro xs h
  obtain ⟨u, rfl, hk⟩ := unfU xs.length xs (Nat.le_refl _)
  rw [passed_rd hk]
  cases u with
  | e => exact absurd rfl h
  | t l g r =>
    obtain ⟨h1, h2, _, _⟩ := hk
    refine ⟨l.rd ++ r.rd, g, rfl, fun a ha => ?_⟩
    rcases List.mem_append.mp ha with ha | ha
    · exact Int.le_of_lt (h1 a ((rd_perm l).mem_iff.mp ha))
    · exact h2 a ((rd_perm r).mem_iff.mp ha)
theorem itp_asc : ∀ (n : Nat) (xs : List Int), xs.length ≤ n + 1 → Asc (itp n xs)
  | 0, xs, h => by
    match xs, h with
    | [], _ => exact .nil
    | [x], _ => simp [itp]
  | n + 1, [], _ => by
    have : itp (n + 1) [] = [] := (itp_perm (n + 1) []).eq_nil
    rw [this]; exact .nil
  | n + 1, x :: xs, h => by
    obtain ⟨ys, t, e, hle⟩ := passed_end (xs := x :: xs) (by simp)
    have hl : ys.length + 1 = (x :: xs).length := by
      have := (passed_perm (x :: xs)).length_eq
      rw [e] at this
      simpa using this
    show Asc (itp n (passed (x :: xs)))
    rw [e, itp_last n hle]
    refine List.pairwise_append.mpr ⟨itp_asc n ys (by simp only [List.length_cons] at h hl; omega), by simp, fun a ha b hb => ?_⟩
    simp only [List.mem_singleton] at hb
    subst hb
    exact hle a ((itp_perm n ys).mem_iff.mp ha)
theorem itp_sort {n : Nat} {xs : List Int} (h : xs.length ≤ n + 1) : itp n xs = sortI xs := asc_sort (itp_asc n xs h) (itp_perm n xs)
/-- no three numbers stand as 2, 3, 1 -/
def Avoid (xs : List Int) : Prop := ∀ i j k, i < j → j < k → k < xs.length → ¬ (xs.getD k 0 < xs.getD i 0 ∧ xs.getD i 0 < xs.getD j 0)
theorem asc_rd_iff : ∀ u : U, u.ok → (Asc u.rd ↔ Avoid u.row)
  | .e, _ => by
    refine ⟨fun _ i j k _ _ hk => ?_, fun _ => .nil⟩
    simp [U.row] at hk
  | .t l g r, ⟨h1, h2, h3, h4⟩ => by
    have il := asc_rd_iff l h3
    have ir := asc_rd_iff r h4
    have pl := rd_perm l
    have pr := rd_perm r
    have key : Asc (U.t l g r).rd ↔ Asc l.rd ∧ Asc r.rd ∧ ∀ a ∈ l.row, ∀ b ∈ r.row, a ≤ b := by
      simp only [U.rd]
      rw [Asc, List.pairwise_append, List.pairwise_append]
      constructor
      · rintro ⟨⟨a1, a2, a3⟩, _, _⟩
        exact ⟨a1, a2, fun a ha b hb => a3 a (pl.mem_iff.mpr ha) b (pr.mem_iff.mpr hb)⟩
      · rintro ⟨a1, a2, a3⟩
        refine ⟨⟨a1, a2, fun a ha b hb => a3 a (pl.mem_iff.mp ha) b (pr.mem_iff.mp hb)⟩, by simp, fun a ha b hb => ?_⟩
        simp only [List.mem_singleton] at hb
        subst hb
        rcases List.mem_append.mp ha with ha | ha
        · exact Int.le_of_lt (h1 a (pl.mem_iff.mp ha))
        · exact h2 a (pr.mem_iff.mp ha)
    rw [key, il, ir]
    have gl : ∀ i, i < l.row.length → (U.t l g r).row.getD i 0 = l.row.getD i 0 := fun i hi => by
      simp only [U.row, List.getD_eq_getElem?_getD, List.append_assoc]
      rw [List.getElem?_append_left hi]
    have gg : (U.t l g r).row.getD l.row.length 0 = g := by
      simp [U.row, List.getD_eq_getElem?_getD]
    have gr : ∀ i, (U.t l g r).row.getD (l.row.length + 1 + i) 0 = r.row.getD i 0 := fun i => by
      simp only [U.row, List.getD_eq_getElem?_getD]
      rw [List.getElem?_append_right (by simp)]
      simp only [List.length_append, List.length_cons, List.length_nil]
      rw [show l.row.length + 1 + i - (l.row.length + (0 + 1)) = i by omega]
    have hlen : (U.t l g r).row.length = l.row.length + 1 + r.row.length := by simp [U.row]; omega
    have ml : ∀ i, i < l.row.length → l.row.getD i 0 ∈ l.row := fun i hi => by
      rw [List.getD_eq_getElem?_getD, List.getElem?_eq_getElem hi]; exact List.getElem_mem hi
    have mr : ∀ i, i < r.row.length → r.row.getD i 0 ∈ r.row := fun i hi => by
      rw [List.getD_eq_getElem?_getD, List.getElem?_eq_getElem hi]; exact List.getElem_mem hi
    constructor
    · rintro ⟨A, B, C⟩ i j k hij hjk hk ⟨q1, q2⟩
      rw [hlen] at hk
      by_cases hk1 : k < l.row.length
      · rw [gl k hk1, gl i (by omega)] at q1
        rw [gl i (by omega), gl j (by omega)] at q2
        exact A i j k hij hjk hk1 ⟨q1, q2⟩
      · by_cases hk2 : k = l.row.length
        · subst hk2
          rw [gg, gl i (by omega)] at q1
          have := h1 _ (ml i (by omega))
          omega
        · obtain ⟨k', rfl⟩ : ∃ k', k = l.row.length + 1 + k' := ⟨k - (l.row.length + 1), by omega⟩
          have hk' : k' < r.row.length := by omega
          rw [gr] at q1
          by_cases hi1 : i < l.row.length
          · rw [gl i hi1] at q1
            have := C _ (ml i hi1) _ (mr k' hk')
            omega
          · by_cases hi2 : i = l.row.length
            · subst hi2
              obtain ⟨j', rfl⟩ : ∃ j', j = l.row.length + 1 + j' := ⟨j - (l.row.length + 1), by omega⟩
              rw [gg, gr] at q2
              have := h2 _ (mr j' (by omega))
              omega
            · obtain ⟨i', rfl⟩ : ∃ i', i = l.row.length + 1 + i' := ⟨i - (l.row.length + 1), by omega⟩
              obtain ⟨j', rfl⟩ : ∃ j', j = l.row.length + 1 + j' := ⟨j - (l.row.length + 1), by omega⟩
              rw [gr] at q1
              rw [gr, gr] at q2
              exact B i' j' k' (by omega) (by omega) hk' ⟨q1, q2⟩
    · intro A
      refine ⟨fun i j k hij hjk hk q => ?_, fun i j k hij hjk hk q => ?_, fun a ha b hb => ?_⟩
      · have := A i j k hij hjk (by omega)
        rw [gl i (by omega), gl j (by omega), gl k hk] at this
        exact this q
      · have := A (l.row.length + 1 + i) (l.row.length + 1 + j) (l.row.length + 1 + k) (by omega) (by omega) (by omega)
        rw [gr, gr, gr] at this
        exact this q
      · obtain ⟨i, hi, rfl⟩ := List.getElem_of_mem ha
        obtain ⟨k, hk, rfl⟩ := List.getElem_of_mem hb
        have := A i l.row.length (l.row.length + 1 + k) hi (by omega) (by omega)
        rw [gl i hi, gg, gr] at this
        simp only [List.getD_eq_getElem?_getD, List.getElem?_eq_getElem hi, List.getElem?_eq_getElem hk, Option.getD_some] at this
        have h5 := h1 _ (List.getElem_mem hi)
        omega
theorem sorted_iff_avoid (xs : List Int) : passed xs = sortI xs ↔ Avoid xs := by
  rw [asc_iff]
  obtain ⟨u, rfl, h⟩ := unfU xs.length xs (Nat.le_refl _)
  rw [passed_rd h]
  exact asc_rd_iff u h
end Mine
end
section
open PySem PySem.W PySem.Calls PyProof.Rows
set_option linter.all false
set_option maxRecDepth 100000
namespace Mine
section
variable {X : SX} {env : Env} {d : Nat} {st st' st₁ st₂ : St} {elt : PySem.Expr}
theorem CompM.app {gs : List Comprehension} {xs ys xs' ys' : List MVal} {a b e : St} (h1 : CompM X env d elt gs xs a ys b) (h2 : CompM X env d elt gs xs' b ys' e) : CompM X env d elt gs (xs ++ xs') a (ys ++ ys') e := by
  induction h1 with
  | nil => exact h2
  | skip k1 k2 _ ih => exact .skip k1 k2 (ih h2)
  | elt k1 k2 k3 _ ih => exact .elt k1 k2 k3 (ih h2)
  | inner k1 k2 k3 k4 k5 k6 _ _ ih => rw [List.append_assoc]; exact .inner k1 k2 k3 k4 k5 k6 (ih h2)
  | weak s _ ih => exact .weak s (ih h2)
/-- item by item, each from the same state -/
theorem CompM.each {α : Type} {gs : List Comprehension} (f : α → MVal) (out : α → List MVal) (st : St) : ∀ (l : List α),
    (∀ x ∈ l, ∃ st₂, CompM X env d elt gs [f x] st (out x) st₂ ∧ Sub st st₂) → ∃ st', CompM X env d elt gs (l.map f) st (l.flatMap out) st' ∧ (l = [] → st' = st) ∧ Sub st st'
  | [], _ => ⟨st, .nil, fun _ => rfl, ⟨rfl, rfl, fun _ _ h => h⟩⟩
  | x :: xs, h => by
    obtain ⟨s2, h1, h2⟩ := h x List.mem_cons_self
    obtain ⟨s3, h3, _, h4⟩ := CompM.each f out st xs fun y hy => h y (List.mem_cons_of_mem _ hy)
    exact ⟨s3, by rw [List.map_cons, List.flatMap_cons]; exact CompM.app (xs := [f x]) h1 (.weak h2 h3), (fun e => nomatch e), h4⟩
/-- a clause within a clause -/
theorem CompM.within {g g' : Comprehension} {gs : List Comprehension} {x v : MVal} {xs zs : List MVal} {a b c1 c2 : St} (h1 : StoreE X env d g.target x a b) (hi : g.ifs = []) (h3 : EvE X env d g'.iter b v c1) (h4 : IterE X env d v xs c1) (h5 : ∀ u, foldedSetIterable g'.iter env u = pure u)
    (h6 : CompM X env d elt (g' :: gs) xs c1 zs c2) : CompM X env d elt (g :: g' :: gs) [x] a zs c2 := by
  have h := CompM.inner (elt := elt) (gs := gs) (r := []) h1 (by rw [hi]; exact .nil) h3 h4 h5 h6 .nil
  rw [List.append_nil] at h
  exact h
/-- max(a, b) -/
theorem AppE.max2 {a b : Int} : AppE X env d (.obj (.builtin "max")) [.int a, .int b] [] st (.int (if b > a then b else a)) st :=
  fun A fz kp kg ρ s fv us kvs ok R hf hv hk Q E q => by
    have ek := kvs_nil hk; subst ek
    simp only [VRel] at hf; subst hf
    simp only [VRels, VRel] at hv
    obtain ⟨_, _, rfl, ⟨t, rfl⟩, _, _, rfl, ⟨u, rfl⟩, rfl⟩ := hv
    refine max_two_ints ok.h fun h' tk hk' => ?_
    split
    · rename_i h
      exact q _ _ _ _ (R.keep (tk := tk) hk') (.refl _ _) (by rw [if_pos h]; simp only [VRel]; exact ⟨_, rfl⟩)
    · rename_i h
      exact q _ _ _ _ (R.keep (tk := tk) hk') (.refl _ _) (by rw [if_neg h]; simp only [VRel]; exact ⟨_, rfl⟩)
end
end Mine
end
section
open PySem PySem.W PySem.Calls PyProof.Rows
set_option linter.all false
set_option maxRecDepth 100000
namespace Mine
local macro_rules | `(tactic| walk_at "sub") => `(tactic| repeat' (first | exact trivial | refine And.intro (by kernel_rfl) ?_))
-- the row
abbrev lc1 : PySem.Expr := asVal (sub t_law 1)
abbrev lc2 : PySem.Expr := asVal (sub t_law 2)
abbrev stPos : Stmt → Pos
  | .Assign _ _ p => p
  | _ => default
abbrev gns : PySem.Expr → List Comprehension
  | .ListComp _ g _ _ => g
  | _ => []
abbrev gE (k : Nat) : Comprehension := ((gns lc2)[k]?).getD ⟨default, default, [], 0⟩
abbrev drL (xs : List Int) : List MVal := (List.range nD).map fun k => .int (drw xs k)
abbrev LR (scr : List MVal) (row : List Int) : List MObj := [.cell (some (.lst scr)), .cell (some (.lst (I2 row)))]
theorem sliceR (xs : List Int) : ∃ ps : List Int, ps.length ≤ 5 ∧ sliceL (drL xs) (some 1) (some (1 + (drw xs 0).fmod 6)) = I2 ps := by
  have h : (drw xs 0).fmod 6 = 0 ∨ (drw xs 0).fmod 6 = 1 ∨ (drw xs 0).fmod 6 = 2 ∨ (drw xs 0).fmod 6 = 3 ∨ (drw xs 0).fmod 6 = 4 ∨ (drw xs 0).fmod 6 = 5 := by rw [Int.fmod_eq_emod_of_nonneg _ (by omega)]; omega
  rcases h with h | h | h | h | h | h <;> rw [h]
  · exact ⟨[], by simp, by kernel_rfl⟩
  · exact ⟨[drw xs 1], by simp, by kernel_rfl⟩
  · exact ⟨[drw xs 1, drw xs 2], by simp, by kernel_rfl⟩
  · exact ⟨[drw xs 1, drw xs 2, drw xs 3], by simp, by kernel_rfl⟩
  · exact ⟨[drw xs 1, drw xs 2, drw xs 3, drw xs 4], by simp, by kernel_rfl⟩
  · exact ⟨[drw xs 1, drw xs 2, drw xs 3, drw xs 4, drw xs 5], by simp, by kernel_rfl⟩
def thrAt (row : List Int) (k j i : Nat) : List MVal := if row.getD k 0 < row.getD i 0 ∧ row.getD i 0 < row.getD j 0 then [.tup [.int i, .int j, .int k]] else []
def thr (row : List Int) : List MVal := (List.range row.length).flatMap fun k => (List.range k).flatMap fun j => (List.range j).flatMap fun i => thrAt row k j i
theorem flatMap_len {α β : Type} (f : α → List β) (b : Nat) : ∀ (l : List α), (∀ x ∈ l, (f x).length ≤ b) → (l.flatMap f).length ≤ l.length * b
  | [], _ => by simp
  | x :: l, h => by
    have h1 := h x List.mem_cons_self
    have h2 := flatMap_len f b l fun y hy => h y (List.mem_cons_of_mem _ hy)
    rw [List.flatMap_cons, List.length_append, List.length_cons, Nat.add_mul, Nat.one_mul]
    omega
theorem thr_len {row : List Int} (h : row.length ≤ 5) : (thr row).length ≤ 125 := by
  have h1 : ∀ k j i, (thrAt row k j i).length ≤ 1 := fun k j i => by unfold thrAt; split <;> simp
  have h2 : ∀ k, k < 5 → ∀ j, j < k → ((List.range j).flatMap fun i => thrAt row k j i).length ≤ 5 := fun k hk j hj => by
    have := flatMap_len (fun i => thrAt row k j i) 1 (List.range j) fun i _ => h1 k j i
    simp only [List.length_range] at this
    omega
  have h3 : ∀ k, k < 5 → ((List.range k).flatMap fun j => (List.range j).flatMap fun i => thrAt row k j i).length ≤ 25 := fun k hk => by
    have := flatMap_len (fun j => (List.range j).flatMap fun i => thrAt row k j i) 5 (List.range k) fun j hj => h2 k hk j (by simpa using hj)
    simp only [List.length_range] at this
    omega
  have h4 : ∀ k ∈ List.range row.length, ((List.range k).flatMap fun j => (List.range j).flatMap fun i => thrAt row k j i).length ≤ 25 := fun k hk => by
    have hk' : k < row.length := by simpa using hk
    exact h3 k (by omega)
  have := flatMap_len (fun k => (List.range k).flatMap fun j => (List.range j).flatMap fun i => thrAt row k j i) 25 (List.range row.length) h4
  simp only [List.length_range] at this
  unfold thr
  omega
theorem thr_nil {row : List Int} : (thr row).isEmpty = true ↔ Avoid row := by
  rw [List.isEmpty_iff, thr, List.flatMap_eq_nil_iff]
  constructor
  · intro h i j k hij hjk hk q
    have h1 := h k (by simpa using hk)
    rw [List.flatMap_eq_nil_iff] at h1
    have h2 := h1 j (by simpa using hjk)
    rw [List.flatMap_eq_nil_iff] at h2
    have h3 := h2 i (by simpa using hij)
    unfold thrAt at h3
    rw [if_pos q] at h3
    cases h3
  · intro h k hk
    rw [List.flatMap_eq_nil_iff]
    intro j hj
    rw [List.flatMap_eq_nil_iff]
    intro i hi
    unfold thrAt
    rw [if_neg (h i j k (by simpa using hi) (by simpa using hj) (by simpa using hk))]
section
variable {prog : Program} {w : World} {hb : Heap} {mg mb : Str → Option Value} {os : OsState} {d : Nat} {led : List MObj}
theorem rowC (XO : SXOk (X0 prog w hb mg mb os)) (scr : List MVal) (ps : List Int) {env : Env} (I : Is env ((cxF fd_law).comp (lcSc lc1))) :
    ∃ st₂, CompE (X0 prog w hb mg mb os) env d (lcTgt lc1) (lcIfs lc1) (lcElt lc1) (I2 ps) ⟨[], [], CL0 scr⟩ (I2 (ps.map (·.fmod 100))) st₂ ∧ st₂.led = CL0 scr := by
  have h := CompE.each (X := X0 prog w hb mg mb os) (env := env) (d := d) (target := lcTgt lc1) (elt := lcElt lc1) (ifs := lcIfs lc1) (fun (k : Int) => MVal.int k) (fun k => [MVal.int (k.fmod 100)]) ⟨[], [], CL0 scr⟩ ps fun k hk =>
    ⟨_, CompE.run (st' := ⟨[("number", .int k)], [], CL0 scr⟩) XO (gtok XO) 20 [] [(100 : Int) ≠ 0] (by kernel_rfl) ⟨by decide, trivial⟩ I, .of rfl rfl trivial⟩
  rw [fm1] at h
  have e : I2 (ps.map (·.fmod 100)) = ps.map fun k => MVal.int (k.fmod 100) := by simp [I2]
  rw [e]
  exact h
abbrev st1 (ds scr : List MVal) : St := ⟨[("draw", .lst ds)], [("script", 0), ("row", 1)], CL0 scr⟩
abbrev st2 (ds scr : List MVal) (row : List Int) : St := ⟨[("draw", .lst ds)], [("script", 0), ("row", 1)], LR scr row⟩
theorem rowS (XO : SXOk (X0 prog w hb mg mb os)) (scr : List MVal) (xs ps : List Int) (hs : sliceL (drL xs) (some 1) (some (1 + (drw xs 0).fmod 6)) = I2 ps) (hn : ps.length ≤ 5) {env : Env} (I : Is env (cxF fd_law)) :
    ExL (X0 prog w hb mg mb os) env d [sub t_law 1] (st1 (drL xs) scr) .next (st2 (drL xs) scr (ps.map (·.fmod 100))) := by
  refine ExL.cons ?_ .nil
  refine .assign (v := .lst (I2 (ps.map (·.fmod 100)))) (st₁ := st1 (drL xs) scr) (EvE.run XO (gtok XO) 30 [.l (I2 (ps.map (·.fmod 100))) (CL0 scr)]
    [∀ (env : Env), Is env ((cxF fd_law).comp (lcSc lc1)) → ∃ st₂, CompE (X0 prog w hb mg mb os) env d (lcTgt lc1) (lcIfs lc1) (lcElt lc1) (sliceL (drL xs) (some 1) (some (1 + (drw xs 0).fmod 6))) ⟨[], [], CL0 scr⟩ (I2 (ps.map (·.fmod 100))) st₂ ∧ st₂.led = CL0 scr,
     (sliceL (drL xs) (some 1) (some (1 + (drw xs 0).fmod 6))).length ≤ 10000000, (drL xs).length ≤ 10000000, (6 : Int) ≠ 0] (by kernel_rfl) ⟨fun env I => by rw [hs]; exact rowC XO scr ps I, by rw [hs]; simp; omega, by rw [List.length_map, List.length_range]; decide, by decide, trivial⟩ I)
    (StoreE.run XO (gtok XO) 5 [] [] (by kernel_rfl) trivial I) rfl ?_ rfl
  have hb : env.blockKind = (cxF fd_law).sc.kind := by
    unfold Env.blockKind
    rw [I.ok.k, ← I.sc, I.ok.k]; rfl
  show (pure _ : Sem Bool) = pure false
  rw [hb, I.kind]
  exact congrArg pure (by kernel_rfl)
-- the threes
noncomputable abbrev cxT : Cx := (cxF fd_law).comp (lcSc lc2)
abbrev stK (scr : List MVal) (row : List Int) (k : Nat) : St := ⟨[("k", .int k)], [("row", 1)], LR scr row⟩
abbrev stKJ (scr : List MVal) (row : List Int) (k j : Nat) : St := ⟨[("k", .int k), ("j", .int j)], [("row", 1)], LR scr row⟩
abbrev stKJI (scr : List MVal) (row : List Int) (k j i : Nat) : St := ⟨[("k", .int k), ("j", .int j), ("i", .int i)], [("row", 1)], LR scr row⟩
theorem getI {row : List Int} {k : Nat} (h : k < row.length) : (I2 row)[k]? = some (.int (row.getD k 0)) := by
  rw [List.getElem?_map, List.getD_eq_getElem?_getD, List.getElem?_eq_getElem h]; rfl
theorem ifT (XO : SXOk (X0 prog w hb mg mb os)) {scr : List MVal} {row : List Int} (hn : row.length ≤ 5) {k j i : Nat} (hk : k < row.length) (hj : j < k) (hi : i < j) {env : Env} (I : Is env cxT) :
    TsE (X0 prog w hb mg mb os) env d (((gE 2).ifs[0]?).getD default) (stKJI scr row k j i) (decide (row.getD k 0 < row.getD i 0) && decide (row.getD i 0 < row.getD j 0)) (stKJI scr row k j i) := by
  have sk : seqIndex? (k : Int) (I2 row).length = some k := seqIdx_nat (by simpa using hk)
  have sj : seqIndex? (j : Int) (I2 row).length = some j := seqIdx_nat (by simp; omega)
  have si : seqIndex? (i : Int) (I2 row).length = some i := seqIdx_nat (by simp; omega)
  have gk := getI hk
  have gj := getI (row := row) (k := j) (by omega)
  have gi := getI (row := row) (k := i) (by omega)
  cases h1 : decide (row.getD k 0 < row.getD i 0) with
  | false =>
    exact TsE.run XO (gtok XO) 20 [.i k (.int (row.getD k 0)), .i i (.int (row.getD i 0)), .b false]
      [decide (row.getD k 0 < row.getD i 0) = false, (i : Int) < 2 ^ 63, -(2 ^ 63) ≤ (i : Int), (I2 row)[i]? = some (.int (row.getD i 0)), seqIndex? (i : Int) (I2 row).length = some i, (k : Int) < 2 ^ 63, -(2 ^ 63) ≤ (k : Int), (I2 row)[k]? = some (.int (row.getD k 0)), seqIndex? (k : Int) (I2 row).length = some k]
      (by kernel_rfl) ⟨h1, by omega, by omega, gi, si, by omega, by omega, gk, sk, trivial⟩ I
  | true =>
    cases h2 : decide (row.getD i 0 < row.getD j 0) with
    | false =>
      exact TsE.run XO (gtok XO) 20 [.i k (.int (row.getD k 0)), .i i (.int (row.getD i 0)), .b true, .i i (.int (row.getD i 0)), .i j (.int (row.getD j 0)), .b false]
        [decide (row.getD i 0 < row.getD j 0) = false, (j : Int) < 2 ^ 63, -(2 ^ 63) ≤ (j : Int), (I2 row)[j]? = some (.int (row.getD j 0)), seqIndex? (j : Int) (I2 row).length = some j, (i : Int) < 2 ^ 63, -(2 ^ 63) ≤ (i : Int), (I2 row)[i]? = some (.int (row.getD i 0)), seqIndex? (i : Int) (I2 row).length = some i,
         decide (row.getD k 0 < row.getD i 0) = true, (i : Int) < 2 ^ 63, -(2 ^ 63) ≤ (i : Int), (I2 row)[i]? = some (.int (row.getD i 0)), seqIndex? (i : Int) (I2 row).length = some i, (k : Int) < 2 ^ 63, -(2 ^ 63) ≤ (k : Int), (I2 row)[k]? = some (.int (row.getD k 0)), seqIndex? (k : Int) (I2 row).length = some k]
        (by kernel_rfl) ⟨h2, by omega, by omega, gj, sj, by omega, by omega, gi, si, h1, by omega, by omega, gi, si, by omega, by omega, gk, sk, trivial⟩ I
    | true =>
      exact TsE.run XO (gtok XO) 20 [.i k (.int (row.getD k 0)), .i i (.int (row.getD i 0)), .b true, .i i (.int (row.getD i 0)), .i j (.int (row.getD j 0)), .b true]
        [decide (row.getD i 0 < row.getD j 0) = true, (j : Int) < 2 ^ 63, -(2 ^ 63) ≤ (j : Int), (I2 row)[j]? = some (.int (row.getD j 0)), seqIndex? (j : Int) (I2 row).length = some j, (i : Int) < 2 ^ 63, -(2 ^ 63) ≤ (i : Int), (I2 row)[i]? = some (.int (row.getD i 0)), seqIndex? (i : Int) (I2 row).length = some i,
         decide (row.getD k 0 < row.getD i 0) = true, (i : Int) < 2 ^ 63, -(2 ^ 63) ≤ (i : Int), (I2 row)[i]? = some (.int (row.getD i 0)), seqIndex? (i : Int) (I2 row).length = some i, (k : Int) < 2 ^ 63, -(2 ^ 63) ≤ (k : Int), (I2 row)[k]? = some (.int (row.getD k 0)), seqIndex? (k : Int) (I2 row).length = some k]
        (by kernel_rfl) ⟨h2, by omega, by omega, gj, sj, by omega, by omega, gi, si, h1, by omega, by omega, gi, si, by omega, by omega, gk, sk, trivial⟩ I
theorem intsR (n : Nat) : intsL 0 n = (List.range n).map fun k : Nat => MVal.int (k : Int) := by
  rw [intsL_map]
  congr 1
  funext k
  rw [Int.zero_add]
theorem compI (XO : SXOk (X0 prog w hb mg mb os)) {scr : List MVal} {row : List Int} (hn : row.length ≤ 5) {k j : Nat} (hk : k < row.length) (hj : j < k) {env : Env} (I : Is env cxT) :
    ∃ s', CompM (X0 prog w hb mg mb os) env d (lcElt lc2) [gE 2] (intsL 0 j) (stKJ scr row k j) ((List.range j).flatMap fun i => thrAt row k j i) s' ∧ Sub (stKJ scr row k j) s' := by
  rw [intsR]
  obtain ⟨s', h1, _, h2⟩ := CompM.each (X := X0 prog w hb mg mb os) (env := env) (d := d) (elt := lcElt lc2) (gs := [gE 2]) (fun i : Nat => MVal.int (i : Int)) (fun i => thrAt row k j i) (stKJ scr row k j) (List.range j) fun i hi => by
    have hij : i < j := by simpa using hi
    have hT := ifT (d := d) XO (scr := scr) hn hk hj hij I
    have hs : StoreE (X0 prog w hb mg mb os) env d (gE 2).target (.int (i : Int)) (stKJ scr row k j) (stKJI scr row k j i) := StoreE.run XO (gtok XO) 5 [] [] (by kernel_rfl) trivial I
    refine ⟨stKJI scr row k j i, ?_, .of rfl rfl (by walk_at "sub")⟩
    unfold thrAt
    by_cases h : row.getD k 0 < row.getD i 0 ∧ row.getD i 0 < row.getD j 0
    · rw [if_pos h]
      rw [decide_eq_true h.1, decide_eq_true h.2] at hT
      exact CompM.elt (g := gE 2) hs (by exact TestsE.one hT) (EvE.run XO (gtok XO) 10 [] [] (by kernel_rfl) trivial I) .nil
    · rw [if_neg h]
      have hf : (decide (row.getD k 0 < row.getD i 0) && decide (row.getD i 0 < row.getD j 0)) = false := by
        rw [Bool.and_eq_false_iff, decide_eq_false_iff_not, decide_eq_false_iff_not]
        by_cases h1 : row.getD k 0 < row.getD i 0
        · exact .inr fun h2 => h ⟨h1, h2⟩
        · exact .inl h1
      rw [hf] at hT
      exact CompM.skip (g := gE 2) hs (by exact TestsE.one hT) .nil
  exact ⟨s', h1, h2⟩
theorem compJ (XO : SXOk (X0 prog w hb mg mb os)) {scr : List MVal} {row : List Int} (hn : row.length ≤ 5) {k : Nat} (hk : k < row.length) {env : Env} (I : Is env cxT) :
    ∃ s', CompM (X0 prog w hb mg mb os) env d (lcElt lc2) [gE 1, gE 2] (intsL 0 k) (stK scr row k) ((List.range k).flatMap fun j => (List.range j).flatMap fun i => thrAt row k j i) s' ∧ Sub (stK scr row k) s' := by
  rw [intsR]
  obtain ⟨s', h1, _, h2⟩ := CompM.each (X := X0 prog w hb mg mb os) (env := env) (d := d) (elt := lcElt lc2) (gs := [gE 1, gE 2]) (fun j : Nat => MVal.int (j : Int)) (fun j => (List.range j).flatMap fun i => thrAt row k j i) (stK scr row k) (List.range k) fun j hj => by
    have hjk : j < k := by simpa using hj
    obtain ⟨s2, g1, g2⟩ := compI (d := d) XO (scr := scr) hn hk hjk I
    refine ⟨s2, CompM.within (b := stKJ scr row k j) (c1 := stKJ scr row k j) (v := .rng 0 j) (StoreE.run XO (gtok XO) 5 [] [] (by kernel_rfl) trivial I) (by kernel_rfl) (EvE.run XO (gtok XO) 10 [] [] (by kernel_rfl) trivial I) ?_ (fold_ok (by kernel_rfl)) g1, ?_⟩
    · have h := IterE.rng (X := X0 prog w hb mg mb os) (env := env) (d := d) (st := stKJ scr row k j) (a := 0) (b := (j : Int)) (by omega) (by omega) (by omega) (by omega)
      have e : ((j : Int) - 0).toNat = j := by omega
      rw [e] at h
      exact h
    · exact ⟨g2.led, g2.cells, fun x v hx => g2.loc x v (by
        have key : Sub (stK scr row k) (stKJ scr row k j) := .of rfl rfl (by walk_at "sub")
        exact key.loc x v hx)⟩
  exact ⟨s', h1, h2⟩
theorem compK (XO : SXOk (X0 prog w hb mg mb os)) {scr : List MVal} {row : List Int} (hn : row.length ≤ 5) {env : Env} (I : Is env cxT) :
    ∃ s', CompM (X0 prog w hb mg mb os) env d (lcElt lc2) [gE 0, gE 1, gE 2] (intsL 0 row.length) ⟨[], [("row", 1)], LR scr row⟩ (thr row) s' ∧ s'.led = LR scr row := by
  rw [intsR]
  obtain ⟨s', h1, _, h2⟩ := CompM.each (X := X0 prog w hb mg mb os) (env := env) (d := d) (elt := lcElt lc2) (gs := [gE 0, gE 1, gE 2]) (fun k : Nat => MVal.int (k : Int)) (fun k => (List.range k).flatMap fun j => (List.range j).flatMap fun i => thrAt row k j i) ⟨[], [("row", 1)], LR scr row⟩ (List.range row.length) fun k hk => by
    have hkn : k < row.length := by simpa using hk
    obtain ⟨s2, g1, g2⟩ := compJ (d := d) XO (scr := scr) hn hkn I
    refine ⟨s2, CompM.within (b := stK scr row k) (c1 := stK scr row k) (v := .rng 0 k) (StoreE.run XO (gtok XO) 5 [] [] (by kernel_rfl) trivial I) (by kernel_rfl) (EvE.run XO (gtok XO) 10 [] [] (by kernel_rfl) trivial I) ?_ (fold_ok (by kernel_rfl)) g1, ?_⟩
    · have h := IterE.rng (X := X0 prog w hb mg mb os) (env := env) (d := d) (st := stK scr row k) (a := 0) (b := (k : Int)) (by omega) (by omega) (by omega) (by omega)
      have e : ((k : Int) - 0).toNat = k := by omega
      rw [e] at h
      exact h
    · exact ⟨g2.led, g2.cells, fun x v hx => by cases hx⟩
  exact ⟨s', h1, h2.led.symm⟩
abbrev st3 (ds scr : List MVal) (row : List Int) : St := ⟨[("draw", .lst ds), ("threes", .lst (thr row))], [("script", 0), ("row", 1)], LR scr row⟩
abbrev tgP : PySem.Expr → Pos
  | .Name _ p => p
  | _ => default
theorem thrS (XO : SXOk (X0 prog w hb mg mb os)) (ds scr : List MVal) (row : List Int) (hn : row.length ≤ 5) {env : Env} (I : Is env (cxF fd_law)) :
    ExL (X0 prog w hb mg mb os) env d [sub t_law 2] (st2 ds scr row) .next (st3 ds scr row) := by
  refine ExL.cons ?_ .nil
  have hl := thr_len hn
  have hit : IterE (X0 prog w hb mg mb os) env d (.rng 0 row.length) (intsL 0 row.length) (st2 ds scr row) := by
    have h := IterE.rng (X := X0 prog w hb mg mb os) (env := env) (d := d) (st := st2 ds scr row) (a := 0) (b := (row.length : Int)) (by omega) (by omega) (by omega) (by omega)
    have e : ((row.length : Int) - 0).toNat = row.length := by omega
    rw [e] at h
    exact h
  have hev : EvE (X0 prog w hb mg mb os) env d (gE 0).iter (st2 ds scr row) (.rng 0 row.length) (st2 ds scr row) := by
    have e : (row.length : Int) = ((I2 row).length : Int) := by simp
    rw [e]
    exact EvE.run XO (gtok XO) 10 [] [(I2 row).length ≤ 10000000] (by kernel_rfl) ⟨by simp; omega, trivial⟩ I
  have h := ExS.assignCompM (X := X0 prog w hb mg mb os) (env := env) (d := d) (elt := lcElt lc2) (target := (gE 0).target) (iter := (gE 0).iter) (ifs := (gE 0).ifs) (gs := [gE 1, gE 2]) (scope := lcSc lc2) (pos := lc2.pos) (spos := stPos (sub t_law 2)) (py := tgP (ftarg (sub t_law 2))) (y := "threes") (v := .rng 0 row.length) (xs := intsL 0 row.length) (ys := thr row) (cs := [("row", 1)]) (st := st2 ds scr row) (st₁ := st2 ds scr row) (st' := st3 ds scr row) (led' := LR scr row)
    I.ok hev hit (by kernel_rfl) (fun C cl => compK XO hn (I.comp (by kernel_rfl) cl C)) (evBind_ok (by kernel_rfl) I) ?sw (by intro g hg; simp only [List.mem_cons, List.not_mem_nil, or_false] at hg; rcases hg with rfl | rfl <;> kernel_rfl) (by omega) (by kernel_rfl) (by kernel_rfl) (by kernel_rfl) (fold_ok (by kernel_rfl))
  case sw =>
    have hb : env.blockKind = (cxF fd_law).sc.kind := by
      unfold Env.blockKind
      rw [I.ok.k, ← I.sc, I.ok.k]; rfl
    show (pure _ : Sem Bool) = pure true
    rw [hb, I.kind]
    exact congrArg pure (by kernel_rfl)
  exact h
end
end Mine
end
section
open PySem PySem.W PySem.Calls PyProof.Rows
set_option linter.all false
set_option maxRecDepth 100000
namespace Mine
local macro_rules | `(tactic| walk_at "sub") => `(tactic| repeat' (first | exact trivial | refine And.intro (by kernel_rfl) ?_))
theorem fits_of : ∀ {l : List MVal}, (∀ x ∈ l, x.fit = true) → fits l = true
  | [], _ => rfl
  | x :: l, h => by simp only [fits, h x List.mem_cons_self, fits_of fun y hy => h y (List.mem_cons_of_mem _ hy)]; rfl
theorem depth_of {n : Nat} : ∀ {l : List MVal}, (∀ x ∈ l, x.toD.depth ≤ n) → PyData.depthAll (toDs l) ≤ n
  | [], _ => by simp [toDs, PyData.depthAll]
  | x :: l, h => by
    have h1 := h x List.mem_cons_self
    have h2 := depth_of fun y hy => h y (List.mem_cons_of_mem _ hy)
    simp only [toDs, PyData.depthAll]
    omega
theorem thr_mem {row : List Int} {x : MVal} (h : x ∈ thr row) : ∃ i j k : Nat, x = .tup [.int i, .int j, .int k] := by
  unfold thr at h
  obtain ⟨k, _, h⟩ := List.mem_flatMap.mp h
  obtain ⟨j, _, h⟩ := List.mem_flatMap.mp h
  obtain ⟨i, _, h⟩ := List.mem_flatMap.mp h
  unfold thrAt at h
  split at h
  · exact ⟨i, j, k, List.mem_singleton.mp h⟩
  · cases h
theorem dEq_nil {l : List MVal} : dEq (.lst l) (.lst []) = l.isEmpty := by
  cases l with
  | nil => rfl
  | cons x l => simp [dEq, MVal.toD, toDs, PyData.eqv, PyData.eqvAll]
-- numbers of a row
def RowOk (l : List Int) : Prop := l.length ≤ 5 ∧ ∀ i ∈ l, 0 ≤ i ∧ i < 100
theorem RowOk.perm {l m : List Int} (h : RowOk l) (p : m.Perm l) : RowOk m := ⟨p.length_eq ▸ h.1, fun i hi => h.2 i (p.mem_iff.mp hi)⟩
abbrev shp : List (List Nat) := [[48], [49], [49, 48], [49, 49]]
theorem shp_ok : shp.all shapeB = true := by decide +kernel
theorem shp_all : ∀ k : Nat, k < 100 → shp.contains ((digs (k : Int)).map rep) = true := by decide +kernel
theorem lt_log : ∀ k : Nat, k < 100 → k.log2 < 1920 := fun k h => by
  by_cases h0 : k = 0
  · subst h0; decide
  · exact Nat.lt_of_lt_of_le ((Nat.log2_lt h0).mpr (by omega : k < 2 ^ 7)) (by decide)
theorem numOk100 {i : Int} (h : 0 ≤ i ∧ i < 100) : NumOk i := by
  obtain ⟨k, rfl⟩ := Int.eq_ofNat_of_zero_le h.1
  exact numOk_of shp h.1 (by omega) shp_ok (shp_all k (by omega))
theorem digs_len100 {i : Int} (h : 0 ≤ i ∧ i < 100) : (digs i).length ≤ 600 := (numOk100 h).len
theorem numT100 {i : Int} (h : 0 ≤ i ∧ i < 100) : NumT i := by
  have hl := digs_len100 h
  obtain ⟨k, rfl⟩ := Int.eq_ofNat_of_zero_le h.1
  refine ⟨lt_log k (by omega), ?_, by show k < 2 ^ 60; omega⟩
  have e : (intS (k : Int)).length = (digs (k : Int)).length := by rw [← digs_is]; rfl
  omega
theorem txtU_len : ∀ u : U, (∀ i ∈ u.row, 0 ≤ i ∧ i < 100) → (txtU u).length ≤ 700 * u.row.length + 2
  | .e, _ => by simp [txtU, U.row]
  | .t l g r, h => by
    have h1 := txtU_len l fun i hi => h i (by simp [U.row, hi])
    have h2 := txtU_len r fun i hi => h i (by simp [U.row, hi])
    have h3 := digs_len100 (h g (by simp [U.row]))
    simp [txtU, U.row, sepT]
    omega
section
variable {prog : Program} {w : World} {hb : Heap} {mg mb : Str → Option Value} {os : OsState} {d : Nat} {led : List MObj}
abbrev LL (scr : List MVal) (row : List Int) : List MObj := LR scr row ++ [.dct (encF QL.enc)] ++ (LD DL).map (MObj.sh 3)
theorem ll_ok {scr : List MVal} (hs : allData scr = true) (row : List Int) : (LL scr row).all (MObj.refsLt (LL scr row).length) = true := by
  have e : (LL scr row).all (MObj.refsLt (LL scr row).length) = (belows 18 scr && (belows 18 (I2 row) && (LL [] []).all (MObj.refsLt 18))) := by kernel_rfl
  rw [e, (datas_sh _ _ hs).2, (datas_sh _ _ (data_ints row)).2]
  kernel_rfl
theorem tellAt (XO : SXOk (X0 prog w hb mg mb os)) {scr : List MVal} {row : List Int} {u : U} (hok : u.ok) (hr : RowOk u.row) (hd : 60 ≤ d) :
    CallsTo (X0 prog w hb mg mb os) d (.obj (.ref a_JSONEncoder_to_text)) [.insr a_JSONEncoder 2, .tup (I2 u.row)] [] (LL scr row) (.str (txtS u)) (LL scr row) := by
  have hl := txtU_len u hr.2
  have hn := hr.1
  have h1 := ((tellU (d := 0) XO hok hr.1 (fun i hi => numT100 (hr.2 i hi)) (by omega)).mono (d' := d) (by omega)).frame rfl ((LD DL).map (MObj.sh 1)) rfl (by simp [belows, MVal.refsLt, (datas_sh 1 _ (data_ints u.row)).2]) rfl rfl
  have h2 := h1.shift (LR scr row)
  have e1 : shs (LR scr row).length [.insr a_JSONEncoder 0, .tup (I2 u.row)] = [.insr a_JSONEncoder 2, .tup (I2 u.row)] := by
    simp only [shs, MVal.sh, (datas_sh _ _ (data_ints u.row)).1]; rfl
  rw [e1] at h2
  exact h2
theorem readAt (XO : SXOk (X0 prog w hb mg mb os)) {scr : List MVal} {row : List Int} {u : U} (hr : RowOk u.row) (hd : 60 ≤ d) :
    CallsTo (X0 prog w hb mg mb os) d (.obj (.ref a_JSONDecoder_from_text)) [.insr a_JSONDecoder 3, .str (txtS u)] [] (LL scr row) (.lst (I2 u.rd)) (LL scr row) := by
  have hl := txtU_len u hr.2
  have hn := hr.1
  have h1 := ((readU (d := 0) XO hr.1 (fun i hi => numOk100 (hr.2 i hi)) (by omega)).mono (d' := d) (by omega)).shift ((LL scr row).take 3)
  have e1 : (MVal.lst (I2 u.rd)).sh 3 = .lst (I2 u.rd) := by simp only [MVal.sh, (datas_sh _ _ (data_ints u.rd)).1]
  have e2 : ((LL scr row).take 3).length = 3 := rfl
  rw [e2, e1] at h1
  exact h1
abbrev stQ (ds scr : List MVal) (row now : List Int) : St := ⟨[("draw", .lst ds), ("threes", .lst (thr row)), ("decoder", .insr a_JSONDecoder 3), ("encoder", .insr a_JSONEncoder 2), ("now", .lst (I2 now))], [("script", 0), ("row", 1)], LL scr row⟩
abbrev stT (ds scr : List MVal) (row now next : List Int) (t : Nat) : St := ⟨[("draw", .lst ds), ("threes", .lst (thr row)), ("decoder", .insr a_JSONDecoder 3), ("encoder", .insr a_JSONEncoder 2), ("now", .lst (I2 now)), ("turn", .int t), ("told", .lst (I2 next))], [("script", 0), ("row", 1)], LL scr row⟩
abbrev stTn0 (ds scr : List MVal) (row now : List Int) (t : Nat) : St := ⟨[("draw", .lst ds), ("threes", .lst (thr row)), ("decoder", .insr a_JSONDecoder 3), ("encoder", .insr a_JSONEncoder 2), ("now", .lst (I2 now)), ("turn", .int t)], [("script", 0), ("row", 1)], LL scr row⟩
abbrev forT : Stmt := sub t_law 5
theorem turnS (XO : SXOk (X0 prog w hb mg mb os)) {ds scr : List MVal} (hs : allData scr = true) {row now : List Int} (hr : RowOk row) (hw : RowOk now) (t : Nat) (ht : t = 0 → now = row) (hd : 60 ≤ d) {env : Env} (I : Is env (cxF fd_law)) :
    ExL (X0 prog w hb mg mb os) env d (fbody forT) (stTn0 ds scr row now t) .next (stT ds scr row (passed now) (passed now) t) := by
  obtain ⟨u, hu, hok⟩ := unfU now.length now (Nat.le_refl _)
  subst hu
  have hrd := passed_rd hok
  rw [hrd]
  have h1 := tellAt (d := d) (scr := scr) (row := row) XO hok hw hd
  have h2 := readAt (d := d) (scr := scr) (row := row) XO hw hd
  have h3 := (passedC (d := 0) (led := LL scr row) XO (ll_ok hs row) (row := u.row) (by have := hw.1; omega)).mono (d' := d) (by omega)
  rw [hrd] at h3
  have hn5 := hw.1
  have hne : ∀ (env : Env) (st : St), EnvOk env → CmpE (X0 prog w hb mg mb os) env d .NotEq (.lst (I2 u.rd)) (.lst (I2 u.rd)) st false st := fun env st _ => by
    have h := CmpE.neD (X := X0 prog w hb mg mb os) (env := env) (d := d) (st := st) (a := .lst (I2 u.rd)) (b := .lst (I2 u.rd)) (fits_ints _) (fits_ints _) (depth_ints _)
    rw [dEq_ints] at h
    simpa using h
  cases t with
  | succ t =>
    refine ExL.run XO (gtok XO) 40 [.r (.tup (I2 u.row)), .v (.str (txtS u)) (LL scr row), .v (.lst (I2 u.rd)) (LL scr row), .v (.lst (I2 u.rd)) (LL scr row), .m false, .b false]
      [(((t + 1 : Nat) : Int) == 0) = false, ∀ (env : Env) (st : St), EnvOk env → CmpE (X0 prog w hb mg mb os) env d .NotEq (.lst (I2 u.rd)) (.lst (I2 u.rd)) st false st,
       CallsTo (X0 prog w hb mg mb os) d (.obj (.ref a_law_passed)) [.lst (I2 u.row)] [] (LL scr row) (.lst (I2 u.rd)) (LL scr row),
       CallsTo (X0 prog w hb mg mb os) d (.obj (.ref a_JSONDecoder_from_text)) [.insr a_JSONDecoder 3, .str (txtS u)] [] (LL scr row) (.lst (I2 u.rd)) (LL scr row),
       CallsTo (X0 prog w hb mg mb os) d (.obj (.ref a_JSONEncoder_to_text)) [.insr a_JSONEncoder 2, .tup (I2 u.row)] [] (LL scr row) (.str (txtS u)) (LL scr row),
       cApp (X0 prog w hb mg mb os) d (.obj (.type "tuple")) [.lst (I2 u.row)] (.tup (I2 u.row))]
      (by kernel_rfl) ⟨by rw [beq_eq_false_iff_ne]; omega, hne, h3, h2, h1, fun _ _ _ => .tupOf (by simp; omega), trivial⟩ I
  | zero =>
    have hrow : u.row = row := ht rfl
    have hiff := sorted_iff_avoid u.row
    rw [hrd, ← thr_nil] at hiff
    rw [hrow] at hiff
    have hsort : ∀ (env : Env) (st : St), EnvOk env → AppE (X0 prog w hb mg mb os) env d (.obj (.builtin "sorted")) [.lst (I2 row)] [] st (.lst (I2 (sortI row))) st := fun env st _ => .sorted (by have := hr.1; omega)
    have heq : ∀ (env : Env) (st : St), EnvOk env → CmpE (X0 prog w hb mg mb os) env d .Eq (.lst (I2 u.rd)) (.lst (I2 (sortI row))) st (decide (u.rd = sortI row)) st := fun env st _ => by
      have h := CmpE.eqD (X := X0 prog w hb mg mb os) (env := env) (d := d) (st := st) (a := .lst (I2 u.rd)) (b := .lst (I2 (sortI row))) (fits_ints _) (fits_ints _) (depth_ints _)
      rw [dEq_ints] at h
      exact h
    have hthr : ∀ (env : Env) (st : St), EnvOk env → CmpE (X0 prog w hb mg mb os) env d .Eq (.lst (thr row)) (.lst []) st (decide (u.rd = sortI row)) st := fun env st _ => by
      have h := CmpE.eqD (X := X0 prog w hb mg mb os) (env := env) (d := d) (st := st) (a := .lst (thr row)) (b := .lst []) (by
        show fits (thr row) = true
        exact fits_of fun x hx => by obtain ⟨i, j, k, rfl⟩ := thr_mem hx; rfl) rfl (by
        show PyData.depthAll (toDs (thr row)) + 1 ≤ 100
        have := depth_of (n := 1) (l := thr row) fun x hx => by obtain ⟨i, j, k, rfl⟩ := thr_mem hx; simp [MVal.toD, toDs, PyData.depth, PyData.depthAll]
        omega)
      rw [dEq_nil] at h
      have e : (thr row).isEmpty = decide (u.rd = sortI row) := by
        by_cases q : u.rd = sortI row
        · rw [decide_eq_true q]; exact hiff.mp q
        · rw [decide_eq_false q]
          cases hb' : (thr row).isEmpty with
          | false => rfl
          | true => exact absurd (hiff.mpr hb') q
      rw [e] at h
      exact h
    generalize decide (u.rd = sortI row) = b at heq hthr
    have hbb : ∀ (env : Env) (st : St), EnvOk env → CmpE (X0 prog w hb mg mb os) env d .NotEq (.bool b) (.bool b) st false st := fun env st _ => by
      have h := CmpE.neD (X := X0 prog w hb mg mb os) (env := env) (d := d) (st := st) (a := .bool b) (b := .bool b) rfl rfl (by cases b <;> decide)
      have e : (!dEq (.bool b) (.bool b)) = false := by cases b <;> rfl
      rw [e] at h
      exact h
    refine ExL.run XO (gtok XO) 40 [.r (.tup (I2 u.row)), .v (.str (txtS u)) (LL scr row), .v (.lst (I2 u.rd)) (LL scr row), .v (.lst (I2 u.rd)) (LL scr row), .m false, .a, .r (.lst (I2 (sortI row))), .m b, .m false, .m b, .m false]
      [∀ (env : Env) (st : St), EnvOk env → CmpE (X0 prog w hb mg mb os) env d .NotEq (.bool b) (.bool b) st false st,
       ∀ (env : Env) (st : St), EnvOk env → CmpE (X0 prog w hb mg mb os) env d .Eq (.lst (thr row)) (.lst []) st b st,
       ∀ (env : Env) (st : St), EnvOk env → CmpE (X0 prog w hb mg mb os) env d .Eq (.lst (I2 u.rd)) (.lst (I2 (sortI row))) st b st,
       ∀ (env : Env) (st : St), EnvOk env → AppE (X0 prog w hb mg mb os) env d (.obj (.builtin "sorted")) [.lst (I2 row)] [] st (.lst (I2 (sortI row))) st,
       ∀ (env : Env) (st : St), EnvOk env → CmpE (X0 prog w hb mg mb os) env d .NotEq (.lst (I2 u.rd)) (.lst (I2 u.rd)) st false st,
       CallsTo (X0 prog w hb mg mb os) d (.obj (.ref a_law_passed)) [.lst (I2 u.row)] [] (LL scr row) (.lst (I2 u.rd)) (LL scr row),
       CallsTo (X0 prog w hb mg mb os) d (.obj (.ref a_JSONDecoder_from_text)) [.insr a_JSONDecoder 3, .str (txtS u)] [] (LL scr row) (.lst (I2 u.rd)) (LL scr row),
       CallsTo (X0 prog w hb mg mb os) d (.obj (.ref a_JSONEncoder_to_text)) [.insr a_JSONEncoder 2, .tup (I2 u.row)] [] (LL scr row) (.str (txtS u)) (LL scr row),
       cApp (X0 prog w hb mg mb os) d (.obj (.type "tuple")) [.lst (I2 u.row)] (.tup (I2 u.row))]
      (by kernel_rfl) ⟨hbb, hthr, heq, hsort, hne, h3, h2, h1, fun _ _ _ => .tupOf (by simp; omega), trivial⟩ I
end
end Mine
end
section
open PySem PySem.W PySem.Calls PyProof.Rows
set_option linter.all false
set_option maxRecDepth 100000
namespace Mine
local macro_rules | `(tactic| walk_at "sub") => `(tactic| repeat' (first | exact trivial | refine And.intro (by kernel_rfl) ?_))
section
variable {prog : Program} {w : World} {hb : Heap} {mg mb : Str → Option Value} {os : OsState} {d : Nat} {led : List MObj}
theorem loopT (XO : SXOk (X0 prog w hb mg mb os)) {ds scr : List MVal} (hs : allData scr = true) {row : List Int} (hr : RowOk row) (hd : 60 ≤ d) {env : Env} (I : Is env (cxF fd_law)) :
    ∀ (m t : Nat) (now : List Int), RowOk now → (t = 0 → now = row) → ∃ st2, ForE (X0 prog w hb mg mb os) env d (ftarg forT) (fbody forT) (intsL t m) (stQ ds scr row now) .next st2 ∧ Sub (stQ ds scr row (itp m now)) st2
  | 0, t, now, _, _ => ⟨_, .nil, .of rfl rfl (by walk_at "sub")⟩
  | m + 1, t, now, hw, ht => by
    obtain ⟨st2, h1, h2⟩ := loopT XO (ds := ds) hs hr hd I m (t + 1) (passed now) (hw.perm (passed_perm now)) (fun q => by omega)
    have e : ((t : Int) + 1) = ((t + 1 : Nat) : Int) := by omega
    refine ⟨st2, .next (b := stTn0 ds scr row now t) (c := stT ds scr row (passed now) (passed now) t) (f := .next) (StoreE.run XO (gtok XO) 5 [] [] (by kernel_rfl) trivial I) (turnS XO hs hr hw t ht hd I) (.inl rfl) (.weak (a' := stQ ds scr row (passed now)) (.of rfl rfl (by walk_at "sub")) ?_), h2⟩
    rw [e]
    exact h1
theorem encAtL (XO : SXOk (X0 prog w hb mg mb os)) {scr : List MVal} {row : List Int} (hd : 60 ≤ d) : CallsTo (X0 prog w hb mg mb os) d (.obj (.ref a_JSONEncoder)) [] [("default", .obj (.ref a_law_unfolded)), ("tuple_as_array", .bool false)] (LR scr row) (.insr a_JSONEncoder 2) (LR scr row ++ [.dct (encF QL.enc)]) :=
  (encMakeL (d := 0) (led := LR scr row) XO).mono (by omega)
theorem decAtL (XO : SXOk (X0 prog w hb mg mb os)) {scr : List MVal} {row : List Int} (hd : 60 ≤ d) : CallsTo (X0 prog w hb mg mb os) d (.obj (.ref a_JSONDecoder)) [] [("array_hook", hookL)] (LR scr row ++ [.dct (encF QL.enc)]) (.insr a_JSONDecoder 3) (LL scr row) :=
  (decMakeA (d := 0) (led := LR scr row ++ [.dct (encF QL.enc)]) XO hookL (by kernel_rfl) (fun n => rfl)).mono (by omega)
theorem lawC (XO : SXOk (X0 prog w hb mg mb os)) (xs : List Int) (hx : xs.length ≤ 63) : ∃ led', CallsTo (X0 prog w hb mg mb os) 61 (.obj (.ref a_law)) [.lst (xs.map MVal.int)] [] [] (.bool true) led' := by
  obtain ⟨ps, hps, hsl⟩ := sliceR xs
  have hds : allData (xs.map MVal.int) = true := data_ints xs
  have hdr : ∀ env, Is env ((cxF fd_law).comp (lcSc lc0)) → ∃ st₂, CompE (X0 prog w hb mg mb os) env 60 (lcTgt lc0) (lcIfs lc0) (lcElt lc0) (intsL 0 nD) ⟨[], [("script", 0)], CL0 (xs.map MVal.int)⟩ (drL xs) st₂ ∧ st₂.led = CL0 (xs.map MVal.int) := fun env I => drawC (d := 60) XO xs (by omega) I
  have hrow := fun (env : Env) (I : Is env (cxF fd_law)) => rowS (d := 60) XO (xs.map MVal.int) xs ps hsl hps I
  have hr : RowOk (ps.map (·.fmod 100)) := ⟨by simpa using hps, fun i hi => by
    obtain ⟨k, _, rfl⟩ := List.mem_map.mp hi
    exact ⟨Int.fmod_nonneg_of_pos _ (by omega), Int.fmod_lt_of_pos _ (by omega)⟩⟩
  generalize ps.map (·.fmod 100) = row at hr hrow
  have hn := hr.1
  have hthr := fun (env : Env) (I : Is env (cxF fd_law)) => thrS (d := 60) XO (drL xs) (xs.map MVal.int) row hn I
  generalize drL xs = ds at hrow hthr hdr
  generalize xs.map MVal.int = scr at *
  obtain ⟨m, hm1, hm2⟩ : ∃ m : Nat, (if (row.length : Int) - 1 > 1 then (row.length : Int) - 1 else 1) = (m : Int) ∧ row.length ≤ m + 1 := by
    by_cases h : (row.length : Int) - 1 > 1
    · exact ⟨row.length - 1, by rw [if_pos h]; omega, by omega⟩
    · exact ⟨1, by rw [if_neg h]; rfl, by omega⟩
  have hm3 : (m : Int) ≤ 5 := by rw [← hm1]; split <;> omega
  have hmax : ∀ (env : Env) (st : St), EnvOk env → AppE (X0 prog w hb mg mb os) env 60 (.obj (.builtin "max")) [.int 1, .int (((I2 row).length : Int) - 1)] [] st (.int m) st := fun env st _ => by
    have h := AppE.max2 (X := X0 prog w hb mg mb os) (env := env) (d := 60) (st := st) (a := 1) (b := (row.length : Int) - 1)
    rw [hm1] at h
    have e : (I2 row).length = row.length := by simp
    rw [e]; exact h
  have hfor : ∀ env, Is env (cxF fd_law) → ∃ st2, ForE (X0 prog w hb mg mb os) env 60 (ftarg forT) (fbody forT) (intsL 0 ((m : Int) - 0).toNat) (stQ ds scr row row) .next st2 ∧ Sub (stQ ds scr row (sortI row)) st2 := fun env I => by
    have e : ((m : Int) - 0).toNat = m := by omega
    obtain ⟨st2, h1, h2⟩ := loopT (d := 60) XO (ds := ds) hds hr (by omega) I m 0 row hr (fun _ => rfl)
    rw [itp_sort hm2] at h2
    rw [e]
    exact ⟨st2, h1, h2⟩
  have hsort : ∀ (env : Env) (st : St), EnvOk env → AppE (X0 prog w hb mg mb os) env 60 (.obj (.builtin "sorted")) [.lst (I2 row)] [] st (.lst (I2 (sortI row))) st := fun env st _ => .sorted (by omega)
  have heq : ∀ (env : Env) (st : St), EnvOk env → CmpE (X0 prog w hb mg mb os) env 60 .Eq (.lst (I2 (sortI row))) (.lst (I2 (sortI row))) st true st := fun env st _ => by
    have h := CmpE.eqD (X := X0 prog w hb mg mb os) (env := env) (d := 60) (st := st) (a := .lst (I2 (sortI row))) (b := .lst (I2 (sortI row))) (fits_ints _) (fits_ints _) (depth_ints _)
    rw [dEq_ints] at h
    simpa using h
  refine ⟨LL scr row, ?_⟩
  exact CallsTo.run2 XO (gtok XO) 300 [.l ds (CL0 scr), .k 1 .next (st2 ds scr row), .k 1 .next (st3 ds scr row), .v (.insr a_JSONEncoder 2) (LR scr row ++ [.dct (encF QL.enc)]), .v (.insr a_JSONDecoder 3) (LL scr row), .r (.int m), .f .next (stQ ds scr row (sortI row)), .r (.lst (I2 (sortI row))), .m true] [("script", .arg 0)] (.ret (.bool true))
    [∀ (env : Env) (st : St), EnvOk env → CmpE (X0 prog w hb mg mb os) env 60 .Eq (.lst (I2 (sortI row))) (.lst (I2 (sortI row))) st true st,
     ∀ (env : Env) (st : St), EnvOk env → AppE (X0 prog w hb mg mb os) env 60 (.obj (.builtin "sorted")) [.lst (I2 row)] [] st (.lst (I2 (sortI row))) st,
     ∀ env, Is env (cxF fd_law) → ∃ st2, ForE (X0 prog w hb mg mb os) env 60 (ftarg forT) (fbody forT) (intsL 0 ((m : Int) - 0).toNat) (stQ ds scr row row) .next st2 ∧ Sub (stQ ds scr row (sortI row)) st2,
     (m : Int) < 2 ^ 62, -(2 ^ 62) ≤ (m : Int), (0 : Int) < 2 ^ 62, -(2 ^ 62) ≤ (0 : Int),
     ∀ (env : Env) (st : St), EnvOk env → AppE (X0 prog w hb mg mb os) env 60 (.obj (.builtin "max")) [.int 1, .int (((I2 row).length : Int) - 1)] [] st (.int m) st,
     (I2 row).length ≤ 10000000,
     CallsTo (X0 prog w hb mg mb os) 60 (.obj (.ref a_JSONDecoder)) [] [("array_hook", hookL)] (LR scr row ++ [.dct (encF QL.enc)]) (.insr a_JSONDecoder 3) (LL scr row),
     CallsTo (X0 prog w hb mg mb os) 60 (.obj (.ref a_JSONEncoder)) [] [("default", .obj (.ref a_law_unfolded)), ("tuple_as_array", .bool false)] (LR scr row) (.insr a_JSONEncoder 2) (LR scr row ++ [.dct (encF QL.enc)]),
     ∀ env, Is env (cxF fd_law) → ExL (X0 prog w hb mg mb os) env 60 [sub t_law 2] (st2 ds scr row) .next (st3 ds scr row),
     ∀ env, Is env (cxF fd_law) → ExL (X0 prog w hb mg mb os) env 60 [sub t_law 1] (st1 ds scr) .next (st2 ds scr row),
     ∀ env, Is env ((cxF fd_law).comp (lcSc lc0)) → ∃ st₂, CompE (X0 prog w hb mg mb os) env 60 (lcTgt lc0) (lcIfs lc0) (lcElt lc0) (intsL 0 nD) ⟨[], [("script", 0)], CL0 scr⟩ ds st₂ ∧ st₂.led = CL0 scr,
     (intsL 0 nD).length ≤ 10000000, (nD : Int) < 2 ^ 62, -(2 ^ 62) ≤ (nD : Int), (0 : Int) < 2 ^ 62, -(2 ^ 62) ≤ (0 : Int)]
    ok_law (by intro a S; kernel_rfl) (by kernel_rfl) (by kernel_rfl) ⟨heq, hsort, hfor, by omega, by omega, by omega, by omega, hmax, by simp; omega, decAtL XO (by omega), encAtL XO (by omega), hthr, hrow, hdr, by decide, by decide, by decide, by decide, by decide, trivial⟩ rfl
end
end Mine
end
section
open PySem PySem.W PySem.Calls PyProof.Rows
set_option linter.all false
set_option maxRecDepth 100000
namespace Mine
theorem well_ints {P : Params} {h : Heap} {fz : FH} {ρ : List Addr} : ∀ (xs : List Int) (vs : List Value), WellAll P h vs (ofPys (xs.map PyData.int)) → VRels fz ρ (xs.map MVal.int) vs
  | [], vs, hW => by
    simp only [List.map_nil, ofPys] at hW
    cases hW
    simp [VRels]
  | x :: xs, vs, hW => by
    simp only [List.map_cons, ofPys, ofPy] at hW
    cases hW with
    | cons h1 h2 =>
      cases h1
      simp only [List.map_cons, VRels, VRel]
      exact ⟨_, _, rfl, ⟨_, rfl⟩, well_ints xs _ h2⟩
abbrev tabsL : List (Addr × Addr) := [(233, 229), (185, 181), (70, 66), (77, 73)]
section
variable {prog p : Program} {loose : List Str} {mean : ExcName → Option Value} {w : World} {s₁ : Shared} {mg mb : Str → Option Value}
noncomputable abbrev XG (prog : Program) (w : World) (s₁ : Shared) (mg mb : Str → Option Value) : SX := X0 prog w (ghostOf s₁.heap tabsL) mg mb s₁.os
theorem xok (T : Top p loose mean mg mb s₁.heap) (KX : (hd.heap_39 w.params).In s₁.heap) (hT : TabsAt tabsL s₁.heap) : SXOk (XG prog w s₁ mg mb) where
  g := ghost_ns hT T.g
  b := ghost_ns hT T.b
  blt := T.builtins
  nolimit := let ⟨mc, a, r⟩ := T.nolimit; ⟨mc, ghost_ns hT a, r⟩
  kin := ghost_K hT KX (by kernel_rfl)
  hd := fun q hq => by
    obtain ⟨o, vs, file, tf, flags, tg, inF, text, tt, e1, r1, r⟩ := (hT q hq).1
    exact ⟨o, vs, file, tf, flags, tg, inF, text, tt, ghost_get hT e1 (fun q => by rw [q] at r1; cases r1), r1, r⟩
  bmain := by
    obtain ⟨bm, ob, h1, h2, h3, h4, h5⟩ := T.bmain
    exact ⟨bm, ob, h1, h2, ghost_get hT h3 (fun q => by rw [q] at h4; cases h4), h4, h5⟩
theorem lrel0 (hT : TabsAt tabsL s₁.heap) (hg : s₁.gens = #[]) : LRel (XG prog w s₁ mg mb) (fun a => (ghostOf s₁.heap tabsL).get? a) nil_ nil_ [] [] s₁ where
  base := ⟨rfl, .of_eq hg⟩
  hb := fun a o e => e
  ifz := fun a o e => of_hideAll _ e
  ikp := fun a o e => by cases e
  ikg := fun i g e => by cases e
  len := rfl
  ild := fun i a m e => by cases e
  nd := List.nodup_nil
  off := fun a ha => by cases ha
  offT := fun q hq => ⟨hideAll_none _ (List.mem_map_of_mem hq), rfl⟩
  dis := fun a o e => by cases e
  tb := fun q hq => ⟨#[], (hT q hq).2, by simp [TriplesOk], fun pos cv e => by simp [codeAmong] at e⟩
theorem finish {claim : ClaimW} {cl : Str → Option Addr} {mean' : ExcName → Option Value} {args : List WData} {fa D : Addr} {xs : List Int}
    (T : Top p loose mean mg mb s₁.heap) (KX : (hd.heap_39 w.params).In s₁.heap) (hT : TabsAt tabsL s₁.heap) (hg : s₁.gens = #[]) (hmg : mg (Str.ofString "law") = some (.ref fa))
    (hW : Well w.params s₁.heap (.ref D) (ofPy (.list (xs.map PyData.int)))) (hx : xs.length ≤ 63) (hr : ∀ a x, claim.raises a x = false) (hp : claim.post args (.bool true) args = true) :
    codeAny (model prog w) callerA (.call (.ref fa) ⟨[.ref D], []⟩) (GoodWG claim cl mean' args s₁) s₁ := by
  have XO : SXOk (XG prog w s₁ mg mb) := xok T KX hT
  have hfa : fa = a_law := by
    have h1 : mg (Str.ofString "law") = some (.ref a_law) := mg_is XO (by kernel_rfl)
    rw [h1] at hmg
    cases hmg; rfl
  subst hfa
  simp only [ofPy] at hW
  cases hW with
  | list hD hvs =>
    rename_i vs
    have hV : VRels (fun a => (ghostOf s₁.heap tabsL).get? a) [] [.lst (xs.map MVal.int)] [.ref D] := by
      simp only [VRels, VRel]
      exact ⟨_, _, rfl, ⟨D, vs.toArray, 0, rfl, ghost_get hT hD (fun q => by cases q), by simpa using well_ints xs vs hvs⟩, rfl⟩
    obtain ⟨ledE, hlawC⟩ := lawC XO xs hx
    refine hlawC callerA _ nil_ nil_ [] s₁ (.ref a_law) [.ref D] [] _ ⟨rfl, by show 1 + claimMargin + 61 < 1000; decide, by show 4 + 20 * 61 + 200 < 9900; decide⟩ (lrel0 hT hg) (by simp [VRel]) hV (by simp [KRels, VRels]) fun fz' ρ' v s' R G hv => ?_
    simp only [VRel] at hv
    subst hv
    have keep : ∀ b o, b ∉ tabsL.map (·.2) → s₁.heap.get? b = some o → s'.heap.get? b = some o := fun b o hb e => R.ifz _ _ (G.1 _ _ (ghost_ne e hb))
    have grown : ∀ b o, b ∈ tabsL.map (·.2) → s₁.heap.get? b = some o → isCodeTable s₁.heap b ∧ o = tabObj #[] ∧ ∃ ps, s'.heap.get? b = some (tabObj ps) := fun b o hb e => by
      obtain ⟨q, hq, rfl⟩ := List.mem_map.mp hb
      have e2 := (hT q hq).2
      rw [e] at e2
      obtain ⟨ps, hP, _⟩ := R.tb q hq
      exact ⟨((hT q hq).1.tab (hT q hq).2).isCodeTable, Option.some.inj e2, ps, hP⟩
    refine ⟨.inl ⟨_, _, [], rfl, hr args, .bool true, hp, fun _ => ⟨List.nodup_nil, fun a ha => by cases ha⟩⟩, ⟨fun b o e => ?_, fun b o e => ?_⟩, R.base.os, R.base.bare⟩
    · by_cases hb : b ∈ tabsL.map (·.2)
      · obtain ⟨ht, rfl, ps, hP⟩ := grown b o hb e
        exact .inr (.inl ⟨ht, rfl, #[], ps, rfl, by rw [Array.empty_append]; exact hP⟩)
      · exact .inl (keep b o hb e)
    · by_cases hb : b ∈ tabsL.map (·.2)
      · obtain ⟨_, _, ps, hP⟩ := grown b o hb e
        exact ⟨_, hP⟩
      · exact ⟨o, keep b o hb e⟩
end
end Mine
end
section
open PySem PySem.W PyProof.Rows
set_option maxHeartbeats 8000000 in
theorem PySem.Challenge.cw_bc5025_01_holds : PySem.Challenge.rw_bc5025_01.Holds := by
  exact hd (by
    k_fill
    intro w s₀ s₁ mg mb G Y fa o pm cd doc dV kV ho hd hcd hD hmg hg args vals as hpre hlay hrd hwl hlo
    have KX := km_in_of Y
    km_tabs Y
    have X := (Ground.X G).1
    have V := (Ground.X G).2
    refine Ground.open G ?_
    intro T B D TE TW
    try (refine guard_noD D (by decide +kernel) ?_; clear D)
    km_lay T hmg ho hd cd
    wrow_args hpre hlay hrd hwl hlo
    all_goals (
      refine enter_call ?_
      refine Mine.finish T KX hT9 hg hmg (by assumption) ?_ ?_ ?_
      · omega
      · exact fun _ _ => rfl
      · kernel_rfl))
end
