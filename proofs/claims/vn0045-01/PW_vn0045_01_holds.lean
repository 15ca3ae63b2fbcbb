import PyProof.Rows.All
import PyProof.TupleKey
import PyProof.SetKind
import PyProof.Rows.SetFrom
import KE.KCallOwn
import KE.KEqDat
import KE.KIsAll
import KE.KSliceW
import KE.KSortTup
import OpenK.XSeg
import Wide.FinOn
import OpenK.AllK
import Wide.All
import Lean
import PySem.Challenge.RW_vn0045_01
/-! The law of Headers.set, by a small logic of its own: what a tree of the program does is told upon an abstract state (Good); one rule a construct; one contract a function. -/
set_option Elab.async false
set_option maxRecDepth 100000
set_option linter.unusedVariables false
set_option linter.unusedSimpArgs false
set_option maxHeartbeats 4000000

namespace Mine
section
open PySem PySem.W PyProof.Rows
/-! ghost heaps -/
def freedObj : Obj := { cls := .none, data := .freed }
def hput (g : Heap) (a : Nat) (o : Obj) : Heap :=
  { g with objs := ((g.objs ++ Array.replicate (a + 1 - g.objs.size) freedObj).setIfInBounds a o) }

theorem get_hput (g : Heap) (a b : Nat) (o : Obj) (ho : o.isFreed = false) :
    (hput g a o).get? b = if b = a then some o else g.get? b := by
  by_cases h : b = a
  · subst h
    rw [if_pos rfl]
    refine Heap.get?_some_iff.mpr ⟨?_, ho⟩
    show ((g.objs ++ Array.replicate (b + 1 - g.objs.size) freedObj).setIfInBounds b o)[b]? = some o
    rw [Array.getElem?_setIfInBounds, if_pos rfl, if_pos]
    rw [Array.size_append, Array.size_replicate]; omega
  · rw [if_neg h]
    have h0 : (hput g a o).objs[b]? = (g.objs ++ Array.replicate (a + 1 - g.objs.size) freedObj)[b]? := by
      show ((g.objs ++ Array.replicate (a + 1 - g.objs.size) freedObj).setIfInBounds a o)[b]? = _
      rw [Array.getElem?_setIfInBounds, if_neg (Ne.symm h)]
    unfold Heap.get?
    rw [h0, Array.getElem?_append]
    by_cases h1 : b < g.objs.size
    · rw [if_pos h1]
    · rw [if_neg h1]
      have h2 : g.objs[b]? = none := Array.getElem?_eq_none (Nat.le_of_not_lt h1)
      rw [h2, Array.getElem?_replicate]
      by_cases h3 : b - g.objs.size < a + 1 - g.objs.size
      · rw [if_pos h3]; rfl
      · rw [if_neg h3]

theorem hput_self {g : Heap} {a : Addr} {o : Obj} (ho : o.isFreed = false) : (hput g a o).get? a = some o := by
  rw [get_hput g a a o ho, if_pos rfl]
theorem hput_le {g : Heap} {a : Addr} {o : Obj} (ho : o.isFreed = false) (hn : g.get? a = none) : g.StaysIn (hput g a o) := by
  intro b ob e
  rw [get_hput g a b o ho]
  split
  · rename_i h; subst h; rw [hn] at e; cases e
  · exact e
theorem hput_in {g h : Heap} {a : Addr} {o : Obj} (ho : o.isFreed = false) (gh : g.StaysIn h) (ha : h.get? a = some o) : (hput g a o).StaysIn h := by
  intro b ob e
  rw [get_hput g a b o ho] at e
  split at e
  · rename_i h1; subst h1; rw [ha]; exact e
  · exact gh b ob e
theorem hput_none {g : Heap} {a b : Addr} {o : Obj} (ho : o.isFreed = false) (hb : g.get? b = none) (ne : b ≠ a) : (hput g a o).get? b = none := by
  rw [get_hput g a b o ho, if_neg ne, hb]

theorem StaysIn.refl (g : Heap) : g.StaysIn g := fun _ _ e => e
theorem StaysIn.trans {a b c : Heap} (x : a.StaysIn b) (y : b.StaysIn c) : a.StaysIn c := fun q o e => y q o (x q o e)

/-! mini values -/
/-- frozen data of any other kind -/
structure FzObj where
  rel : Heap → Value → Prop
  mono : ∀ {g g' : Heap} {v}, g.StaysIn g' → rel g v → rel g' v

inductive MV where
  | junk | none
  | bool (b : Bool) | int (i : Int) | str (s : Str)
  | tup (l : List MV) | lst (l : List MV) | dct (l : List (Str × MV))
  | fz (x : FzObj)
  | obj (n : Nat) | stat (v : Value)
  deriving Inhabited

abbrev Rho := List (Addr × Addr)
abbrev tupObj (vs : List Value) (n : Nat) : Obj := { cls := .type "tuple", data := .seq vs.toArray n }
abbrev lstObj (vs : List Value) (n : Nat) : Obj := { cls := .type "list", data := .seq vs.toArray n }

mutual
inductive VRel (g : Heap) (ρ : Rho) : MV → Value → Prop
  | junk (v) : VRel g ρ .junk v
  | none : VRel g ρ .none .none
  | bool (b) : VRel g ρ (.bool b) (.bool b)
  | int (i t) : VRel g ρ (.int i) (.int i t)
  | str (s t) : VRel g ρ (.str s) (.str s t)
  | stat (v) : VRel g ρ (.stat v) v
  | fz {x : FzObj} {v} : x.rel g v → VRel g ρ (.fz x) v
  | obj {n p} : ρ[n]? = some p → VRel g ρ (.obj n) (.ref p.1)
  | tup {a l vs n} : g.get? a = some (tupObj vs n) → VRels g ρ l vs → VRel g ρ (.tup l) (.ref a)
  | lst {a l vs n} : g.get? a = some (lstObj vs n) → VRels g ρ l vs → VRel g ρ (.lst l) (.ref a)
  | dct {a l es n} : g.get? a = some (dictOf es n) → ERels g ρ l es → VRel g ρ (.dct l) (.ref a)
inductive VRels (g : Heap) (ρ : Rho) : List MV → List Value → Prop
  | nil : VRels g ρ [] []
  | cons {m v ms vs} : VRel g ρ m v → VRels g ρ ms vs → VRels g ρ (m :: ms) (v :: vs)
inductive ERels (g : Heap) (ρ : Rho) : List (Str × MV) → List DictEntry → Prop
  | nil : ERels g ρ [] []
  | cons {k m h t v ms es} : VRel g ρ m v → ERels g ρ ms es → ERels g ρ ((k, m) :: ms) (⟨h, .str k t, v⟩ :: es)
end

/-- the same objects, and more -/
def RLe (ρ ρ' : Rho) : Prop := ∀ (i : Nat) (p : Addr × Addr), ρ[i]? = some p → ∃ p', ρ'[i]? = some p' ∧ p'.1 = p.1
theorem RLe.refl (ρ : Rho) : RLe ρ ρ := fun _ p e => ⟨p, e, rfl⟩
theorem RLe.trans {a b c : Rho} (x : RLe a b) (y : RLe b c) : RLe a c := fun i p e => by
  obtain ⟨p', e', h⟩ := x i p e
  obtain ⟨p'', e'', h'⟩ := y i p' e'
  exact ⟨p'', e'', h'.trans h⟩
theorem RLe.append (a b : Rho) : RLe a (a ++ b) := fun i p e => ⟨p, by
  rw [List.getElem?_append_left (by have := (List.getElem?_eq_some_iff.mp e).1; exact this)]; exact e, rfl⟩

mutual
theorem VRel.mono {g g' : Heap} {ρ ρ' : Rho} (k : g.StaysIn g') (r : RLe ρ ρ') : ∀ {m v}, VRel g ρ m v → VRel g' ρ' m v
  | _, _, .junk v => .junk v
  | _, _, .none => .none
  | _, _, .bool b => .bool b
  | _, _, .int i t => .int i t
  | _, _, .str s t => .str s t
  | _, _, .stat v => .stat v
  | _, _, .fz h => .fz (FzObj.mono _ k h)
  | _, _, .obj (p := p) h => by obtain ⟨p', h', e⟩ := r _ _ h; rw [← e]; exact .obj h'
  | _, _, .tup h hs => .tup (k _ _ h) (hs.mono k r)
  | _, _, .lst h hs => .lst (k _ _ h) (hs.mono k r)
  | _, _, .dct h hs => .dct (k _ _ h) (hs.mono k r)
theorem VRels.mono {g g' : Heap} {ρ ρ' : Rho} (k : g.StaysIn g') (r : RLe ρ ρ') : ∀ {m v}, VRels g ρ m v → VRels g' ρ' m v
  | _, _, .nil => .nil
  | _, _, .cons h hs => .cons (h.mono k r) (hs.mono k r)
theorem ERels.mono {g g' : Heap} {ρ ρ' : Rho} (k : g.StaysIn g') (r : RLe ρ ρ') : ∀ {m v}, ERels g ρ m v → ERels g' ρ' m v
  | _, _, .nil => .nil
  | _, _, .cons h hs => .cons (h.mono k r) (hs.mono k r)
end

theorem VRels.length {g : Heap} {ρ : Rho} {ms : List MV} {vs : List Value} (h : VRels g ρ ms vs) : ms.length = vs.length := by
  induction ms generalizing vs with
  | nil => cases h; rfl
  | cons m ms ih => cases h with | cons _ h => simp [ih h]
theorem VRels.get {g : Heap} {ρ : Rho} {ms : List MV} {vs : List Value} (h : VRels g ρ ms vs) {i : Nat} {m : MV} (hm : ms[i]? = some m) : ∃ v, vs[i]? = some v ∧ VRel g ρ m v := by
  induction ms generalizing vs i with
  | nil => cases hm
  | cons x ms ih =>
    cases h with
    | cons h hs =>
      cases i with
      | zero => cases hm; exact ⟨_, rfl, h⟩
      | succ i => exact ih hs hm
theorem VRels.append {g : Heap} {ρ : Rho} {ms ms' : List MV} {vs vs' : List Value} (h : VRels g ρ ms vs) (h' : VRels g ρ ms' vs') : VRels g ρ (ms ++ ms') (vs ++ vs') := by
  induction ms generalizing vs with
  | nil => cases h; exact h'
  | cons m ms ih => cases h with | cons h hs => exact .cons h (ih hs)

theorem isTup_of {h : Heap} {a : Addr} {vs : List Value} {n : Nat} (e : h.get? a = some (tupObj vs n)) : IsTup h a vs.toArray := ⟨_, e, rfl, _, rfl⟩
theorem isList_of {h : Heap} {a : Addr} {vs : List Value} {n : Nat} (e : h.get? a = some (lstObj vs n)) : h.IsList a vs.toArray := ⟨_, e, rfl, _, rfl⟩
end
section
open PySem PySem.W PyProof.Rows
structure Wd where
  prog : Program
  w : World
  base : Heap
  os : OsState

/-- a mutable thing of any other kind -/
structure SemObj where
  rel : Heap → Rho → Heap → Array GenState → Addr × Addr → Prop
  ok : Nat → Bool
  there : ∀ {g ρ h gs p}, rel g ρ h gs p → (∃ o, h.get? p.1 = some o) ∧ ∃ o, h.get? p.2 = some o
  mono : ∀ {g g' : Heap} {ρ ρ' : Rho} {h h' : Heap} {gs gs' : Array GenState} {p : Addr × Addr}, g.StaysIn g' → RLe ρ ρ' → h'.get? p.1 = h.get? p.1 → h'.get? p.2 = h.get? p.2 → (∀ x, h.IsGen p.1 x → gs'[x]? = gs[x]?) →
    rel g ρ h gs p → rel g' ρ' h' gs' p
  take : ∀ {g ρ h gs p} {k : Nat}, ok k = true → rel g ρ h gs p → rel g (ρ.take k) h gs p

inductive MO where
  | list (l : List MV)
  | inst (l : Option Nat)
  | sem (x : SemObj)
  | dead
  deriving Inhabited

def hdrCls : Addr := 527

inductive ORel (g : Heap) (ρ : Rho) (h : Heap) (gs : Array GenState) : Addr × Addr → MO → Prop
  | list {a l vs n} : h.get? a = some (lstObj vs n) → VRels g ρ l vs → ORel g ρ h gs (a, a) (.list l)
  | inst0 {a d} : h.get? a = some (instObj hdrCls d) → h.get? d = some (dictOf [] 0) → ORel g ρ h gs (a, d) (.inst none)
  | inst1 {a d l p hs t n} : h.get? a = some (instObj hdrCls d) → h.get? d = some (dictOf [⟨hs, .str (Str.ofString "_list") t, .ref p.1⟩] n) → ρ[l]? = some p → ORel g ρ h gs (a, d) (.inst (some l))
  | sem {p} {x : SemObj} : x.rel g ρ h gs p → ORel g ρ h gs p (.sem x)
  | dead {p} : (∃ o, h.get? p.1 = some o) → (∃ o, h.get? p.2 = some o) → ORel g ρ h gs p .dead

abbrev Loc := List (Str × MV)
abbrev Hp := List MO

structure Cx where
  A : Around
  env : Env
  stack : List Env
  kept : List (Addr × Data)

/-- not frozen, no handle's, no storage of this frame's -/
structure Priv (c : Cx) (g : Heap) (ρ : Rho) (a : Addr) : Prop where
  g : g.get? a = none
  r : ∀ p ∈ ρ, p.1 ≠ a ∧ p.2 ≠ a
  l : c.env.locals ≠ a
  cl : ∀ x ∈ c.env.cells, x.2 ≠ a
  k : ∀ q ∈ c.kept, q.1 ≠ a

structure COk (W : Wd) (n : Nat) (sc : Scope) (c : Cx) : Prop where
  scE : c.env.scope = sc
  kind : sc.kind = .function
  glob : c.env.globals = mainGlobals
  blt : c.env.builtins = builtinsNs
  hd : n < 1000 → c.A.handled = none
  dep : c.A.depth ≤ 5 * (n % 1000) + 310
  un : c.A.units ≤ 20 * (n % 1000)
  fr : c.A.frames = some c.stack
  top : ∃ e r, c.stack = e :: r ∧ e.frame = c.env.frame
  cellL : ∀ x ∈ c.env.cells, x.2 ≠ c.env.locals
  stk : ∀ e ∈ c.stack, e.scope.kind ≠ .module ∧ ∃ L, e.frame = some L ∧ (L = c.env.locals ∨ ∃ d, (L, d) ∈ c.kept)
  keptL : ∀ q ∈ c.kept, q.1 ≠ c.env.locals
  cellx : ∀ x, sc.names.lookup x = some .cell → ∃ a, c.env.cells.lookup x = some a

/-- a frame in which statements run; from n = 1000 on: in an except suite -/
structure COkS (W : Wd) (n : Nat) (sc : Scope) (c : Cx) : Prop extends COk W n sc c where
  top' : ∃ r, c.stack = c.env :: r
  frm : c.env.frame = some c.env.locals
  cells : c.env.cells.Pairwise fun x y => x.2 ≠ y.2
  keptC : ∀ x a, c.env.kindOf x = some .cell → c.env.cells.lookup x = some a → ∀ q ∈ c.kept, q.1 ≠ a

def VHolds (c : Cx) (h : Heap) (x : Str) (v : Value) : Prop := match c.env.kindOf x with
  | some .local => ∃ m, h.Ns c.env.locals m ∧ m x = some v
  | some .cell => ∃ a, c.env.cells.lookup x = some a ∧ h.IsCell a (some v)
  | some .free => ∃ a, c.env.cells.lookup x = some a ∧ h.IsCell a (some v)
  | _ => False

structure Good (W : Wd) (c : Cx) (g : Heap) (ρ : Rho) (loc : Loc) (σ : Hp) (s : Shared) : Prop where
  base : W.base.StaysIn g
  gh : g.StaysIn s.heap
  gρ : ∀ p ∈ ρ, g.get? p.1 = none ∧ g.get? p.2 = none
  ρd : ρ.Pairwise fun p q => p.1 ≠ q.1 ∧ p.1 ≠ q.2 ∧ p.2 ≠ q.1 ∧ p.2 ≠ q.2
  len : σ.length = ρ.length
  objs : ∀ (i : Nat) p o, ρ[i]? = some p → σ[i]? = some o → ORel g ρ s.heap s.gens p o
  os : s.os = W.os
  gens : AllBare s.gens
  gq : ∀ (i j : Nat) (p q : Addr × Addr), ρ[i]? = some p → ρ[j]? = some q → ∀ x y, s.heap.IsGen p.1 x → s.heap.IsGen q.1 y → x < s.gens.size ∧ (i ≠ j → x ≠ y)
  locs : ∀ x mv, loc.lookup x = some mv → ∃ v, VHolds c s.heap x v ∧ VRel g ρ mv v
  ns : (∃ m, s.heap.Ns c.env.locals m) ∧ g.get? c.env.locals = none ∧ ∀ p ∈ ρ, p.1 ≠ c.env.locals ∧ p.2 ≠ c.env.locals
  cel : ∀ x ∈ c.env.cells, (∃ v, s.heap.IsCell x.2 v) ∧ g.get? x.2 = none ∧ ∀ p ∈ ρ, p.1 ≠ x.2 ∧ p.2 ≠ x.2
  kep : ∀ q ∈ c.kept, (∃ o, s.heap.get? q.1 = some o ∧ o.data = q.2 ∧ ∀ vs, q.2 ≠ .fields vs) ∧ g.get? q.1 = none ∧ ∀ p ∈ ρ, p.1 ≠ q.1 ∧ p.2 ≠ q.1

theorem ORel.there {g : Heap} {ρ : Rho} {h : Heap} {gs : Array GenState} {p : Addr × Addr} {o : MO} (x : ORel g ρ h gs p o) : (∃ o, h.get? p.1 = some o) ∧ ∃ o, h.get? p.2 = some o := by
  cases x with
  | list h _ => exact ⟨⟨_, h⟩, ⟨_, h⟩⟩
  | inst0 h h' => exact ⟨⟨_, h⟩, ⟨_, h'⟩⟩
  | inst1 h h' _ => exact ⟨⟨_, h⟩, ⟨_, h'⟩⟩
  | sem h => exact SemObj.there _ h
  | dead h h' => exact ⟨h, h'⟩

theorem ORel.mono {g g' : Heap} {ρ ρ' : Rho} {h h' : Heap} {gs gs' : Array GenState} {p : Addr × Addr} {o : MO} (x : ORel g ρ h gs p o) (k : g.StaysIn g') (r : RLe ρ ρ')
    (e1 : h'.get? p.1 = h.get? p.1) (e2 : h'.get? p.2 = h.get? p.2) (eg : ∀ x, h.IsGen p.1 x → gs'[x]? = gs[x]?) : ORel g' ρ' h' gs' p o := by
  cases x with
  | list h hs => exact .list (e1.trans h) (hs.mono k r)
  | inst0 h h' => exact .inst0 (e1.trans h) (e2.trans h')
  | inst1 h h' q => obtain ⟨p', q', e⟩ := r _ _ q; exact .inst1 (e1.trans h) (e2.trans (by rw [e]; exact h')) q'
  | sem h => exact .sem (SemObj.mono _ k r e1 e2 eg h)
  | dead h h' => exact .dead (e1 ▸ h) (e2 ▸ h')
theorem IsGen.of_eq {h h' : Heap} {a : Addr} {x : Nat} (e : h'.get? a = h.get? a) (H : h'.IsGen a x) : h.IsGen a x := by
  obtain ⟨o, nm, qn, ho, r⟩ := H
  exact ⟨o, nm, qn, e ▸ ho, r⟩

section
variable {W : Wd} {c : Cx} {g g' : Heap} {ρ ρ' : Rho} {loc : Loc} {σ σ' : Hp} {s s' : Shared}

theorem Good.rho (G : Good W c g ρ loc σ s) {p : Addr × Addr} (hp : p ∈ ρ) : (∃ o, s.heap.get? p.1 = some o) ∧ ∃ o, s.heap.get? p.2 = some o := by
  obtain ⟨i, hi, e⟩ := List.mem_iff_getElem.mp hp
  have h2 : i < σ.length := by rw [G.len]; exact hi
  exact (G.objs i p σ[i] (by rw [List.getElem?_eq_getElem hi, e]) (List.getElem?_eq_getElem h2)).there

theorem Good.gqOf (G : Good W c g ρ loc σ s) {h' : Heap} (e : ∀ p ∈ ρ, h'.get? p.1 = s.heap.get? p.1) :
    ∀ (i j : Nat) (p q : Addr × Addr), ρ[i]? = some p → ρ[j]? = some q → ∀ x y, h'.IsGen p.1 x → h'.IsGen q.1 y → x < s.gens.size ∧ (i ≠ j → x ≠ y) := fun i j p q e1 e2 x y h1 h2 =>
  G.gq i j p q e1 e2 x y (IsGen.of_eq (e p (List.mem_of_getElem? e1)) h1) (IsGen.of_eq (e q (List.mem_of_getElem? e2)) h2)

/-- a fresh address is private -/
theorem Good.fresh (G : Good W c g ρ loc σ s) {a : Addr} (ha : s.heap.get? a = none) : Priv c g ρ a := by
  refine ⟨?_, fun p hp => ⟨fun e => ?_, fun e => ?_⟩, fun e => ?_, fun x hx e => ?_, fun q hq e => ?_⟩
  · cases q : g.get? a with
    | none => rfl
    | some o => rw [G.gh a o q] at ha; cases ha
  · obtain ⟨o, ho⟩ := (G.rho hp).1; rw [e, ha] at ho; cases ho
  · obtain ⟨o, ho⟩ := (G.rho hp).2; rw [e, ha] at ho; cases ho
  · obtain ⟨m, o, _, _, ho, _⟩ := G.ns.1; rw [e, ha] at ho; cases ho
  · obtain ⟨⟨v, o, ho, _⟩, _⟩ := G.cel x hx; rw [e, ha] at ho; cases ho
  · obtain ⟨⟨o, ho, _⟩, _⟩ := G.kep q hq; rw [e, ha] at ho; cases ho

theorem VHolds.keep {h h' : Heap} {x : Str} {v : Value} (H : VHolds c h x v) (k1 : ∀ m, h.Ns c.env.locals m → h'.Ns c.env.locals m)
    (k2 : ∀ y ∈ c.env.cells, ∀ v, h.IsCell y.2 v → h'.IsCell y.2 v) : VHolds c h' x v := by
  unfold VHolds at H ⊢
  split at H
  · obtain ⟨m, a, b⟩ := H; exact ⟨m, k1 m a, b⟩
  · obtain ⟨a, e, b⟩ := H; exact ⟨a, e, k2 (x, a) (mem_of_lookup e) _ b⟩
  · obtain ⟨a, e, b⟩ := H; exact ⟨a, e, k2 (x, a) (mem_of_lookup e) _ b⟩
  · exact H

structure Step (c : Cx) (g : Heap) (ρ : Rho) (s : Shared) (g' : Heap) (ρ' : Rho) (s' : Shared) : Prop where
  ge : g.StaysIn g'
  re : RLe ρ ρ'
  ke : ∀ a o, s.heap.get? a = some o → Priv c g ρ a → s'.heap.get? a = some o ∧ Priv c g' ρ' a

theorem Step.refl : Step c g ρ s g ρ s := ⟨StaysIn.refl _, RLe.refl _, fun _ _ e p => ⟨e, p⟩⟩
theorem Step.trans {g₁ g₂ g₃ : Heap} {ρ₁ ρ₂ ρ₃ : Rho} {s₁ s₂ s₃ : Shared} (x : Step c g₁ ρ₁ s₁ g₂ ρ₂ s₂) (y : Step c g₂ ρ₂ s₂ g₃ ρ₃ s₃) : Step c g₁ ρ₁ s₁ g₃ ρ₃ s₃ :=
  ⟨StaysIn.trans x.ge y.ge, RLe.trans x.re y.re, fun a o e p => let ⟨e', p'⟩ := x.ke a o e p; y.ke a o e' p'⟩

/-- the state's heap changed away from everything that is held: new objects, private ones -/
theorem Good.move (G : Good W c g ρ loc σ s) (hk : ∀ b o, s.heap.get? b = some o → ¬ Priv c g ρ b → s'.heap.get? b = some o) (ho : s'.os = s.os) (hg : s'.gens = s.gens) : Good W c g ρ loc σ s' := by
  have kg : ∀ b o, s.heap.get? b = some o → g.get? b ≠ none → s'.heap.get? b = some o := fun b o e q => hk b o e fun P => q P.g
  have kr : ∀ p ∈ ρ, ∀ o, (s.heap.get? p.1 = some o → s'.heap.get? p.1 = some o) ∧ (s.heap.get? p.2 = some o → s'.heap.get? p.2 = some o) := fun p hp o =>
    ⟨fun e => hk _ o e fun P => (P.r p hp).1 rfl, fun e => hk _ o e fun P => (P.r p hp).2 rfl⟩
  have kl : ∀ o, s.heap.get? c.env.locals = some o → s'.heap.get? c.env.locals = some o := fun o e => hk _ o e fun P => P.l rfl
  have kc : ∀ x ∈ c.env.cells, ∀ o, s.heap.get? x.2 = some o → s'.heap.get? x.2 = some o := fun x hx o e => hk _ o e fun P => P.cl x hx rfl
  have kN : ∀ m, s.heap.Ns c.env.locals m → s'.heap.Ns c.env.locals m := fun m ⟨o, es, ep, e, r⟩ => ⟨o, es, ep, kl o e, r⟩
  have kC : ∀ y ∈ c.env.cells, ∀ v, s.heap.IsCell y.2 v → s'.heap.IsCell y.2 v := fun y hy v ⟨o, e, r⟩ => ⟨o, kc y hy o e, r⟩
  refine ⟨G.base, fun b o e => kg b o (G.gh b o e) (by rw [e]; simp), G.gρ, G.ρd, G.len, fun i p o e1 e2 => ?_, ho.trans G.os, by rw [hg]; exact G.gens, fun i j p q e1 e2 x y h1 h2 => ?_, fun x mv e => ?_, ⟨?_, G.ns.2⟩, fun x hx => ⟨?_, (G.cel x hx).2⟩, fun q hq => ⟨?_, (G.kep q hq).2⟩⟩
  · have z := G.objs i p o e1 e2
    have hp := List.mem_of_getElem? e1
    obtain ⟨⟨o1, q1⟩, ⟨o2, q2⟩⟩ := z.there
    exact z.mono (StaysIn.refl _) (RLe.refl _) (((kr p hp o1).1 q1).trans q1.symm) (((kr p hp o2).2 q2).trans q2.symm) (fun _ _ => by rw [hg])
  · have hp := List.mem_of_getElem? e1
    have hq := List.mem_of_getElem? e2
    obtain ⟨⟨o1, q1⟩, _⟩ := G.rho hp
    obtain ⟨⟨o2, q2⟩, _⟩ := G.rho hq
    rw [hg]
    exact G.gq i j p q e1 e2 x y (IsGen.of_eq (((kr p hp o1).1 q1).trans q1.symm) h1) (IsGen.of_eq (((kr q hq o2).1 q2).trans q2.symm) h2)
  · obtain ⟨v, H, r⟩ := G.locs x mv e
    exact ⟨v, H.keep kN kC, r⟩
  · obtain ⟨m, hm⟩ := G.ns.1; exact ⟨m, kN m hm⟩
  · obtain ⟨v, hv⟩ := (G.cel x hx).1; exact ⟨v, kC x hx v hv⟩
  · obtain ⟨o, e, r⟩ := (G.kep q hq).1
    exact ⟨o, hk _ o e (fun P => P.k q hq rfl), r⟩

/-- a new object, frozen -/
theorem Good.alloc (G : Good W c g ρ loc σ s) {o : Obj} (ho : o.isFreed = false) {t : Nat} :
    Good W c (hput g s.heap.objs.size o) ρ loc σ { s with heap := s.heap.push o, toks := t } ∧ Step c g ρ s (hput g s.heap.objs.size o) ρ { s with heap := s.heap.push o, toks := t } ∧
    (hput g s.heap.objs.size o).get? s.heap.objs.size = some o := by
  have fr : s.heap.get? s.heap.objs.size = none := Heap.get?_none_of_le (Nat.le_refl _)
  have P := G.fresh fr
  have ne : ∀ {b : Nat} {o'}, s.heap.get? b = some o' → b ≠ s.heap.objs.size := fun e q => by rw [q, fr] at e; cases e
  have G1 : Good W c g ρ loc σ { s with heap := s.heap.push o, toks := t } := G.move (fun b o' e _ => Heap.get?_push_of_some _ e) rfl rfl
  have le := hput_le (g := g) (a := s.heap.objs.size) ho P.g
  refine ⟨⟨StaysIn.trans G.base le, hput_in ho G1.gh (Heap.get?_push_size _ ho), fun p hp => ?_, G1.ρd, G1.len, fun i p o' e1 e2 => ?_, G1.os, G1.gens, G1.gq, fun x mv e => ?_, ⟨G1.ns.1, ?_, G1.ns.2.2⟩, fun x hx => ⟨(G1.cel x hx).1, ?_, (G1.cel x hx).2.2⟩, fun q hq => ⟨(G1.kep q hq).1, ?_, (G1.kep q hq).2.2⟩⟩, ⟨le, RLe.refl _, fun a o' e p => ⟨Heap.get?_push_of_some _ e, ⟨?_, p.r, p.l, p.cl, p.k⟩⟩⟩, hput_self ho⟩
  · obtain ⟨⟨o1, q1⟩, ⟨o2, q2⟩⟩ := G.rho hp
    exact ⟨hput_none ho (G.gρ p hp).1 (ne q1), hput_none ho (G.gρ p hp).2 (ne q2)⟩
  · exact (G1.objs i p o' e1 e2).mono le (RLe.refl _) rfl rfl (fun _ _ => rfl)
  · obtain ⟨v, H, r⟩ := G1.locs x mv e
    exact ⟨v, H, r.mono le (RLe.refl _)⟩
  · obtain ⟨m, oL, _, _, hL, _⟩ := G.ns.1
    exact hput_none ho G.ns.2.1 (ne hL)
  · obtain ⟨⟨_, o1, q1, _⟩, q2, _⟩ := G.cel x hx
    exact hput_none ho q2 (ne q1)
  · obtain ⟨⟨o1, q1, _⟩, q2, _⟩ := G.kep q hq
    exact hput_none ho q2 (ne q1)
  · exact hput_none ho p.g (ne e)
end
end
section
open PySem PySem.W PyProof.Rows
inductive Xc where
  | key | val
  deriving DecidableEq

def Xc.cls : Xc → Value
  | .key => .ref 71
  | .val => .type "ValueError"

/-- an exception on its way: h₀ is the heap as it stood without it -/
structure XFly (c : Cx) (h₀ h : Heap) (x : Value) (xc : Xc) : Prop where
  ex : ∃ e, x = .ref e ∧ h₀.get? e = none ∧ ∃ oe vs, h.get? e = some oe ∧ oe.cls = xc.cls ∧ oe.data = .fields vs ∧
    (vs[1]? = some .none ∨ ∃ T oT ts, vs[1]? = some (.ref T) ∧ h₀.get? T = none ∧ T ≠ e ∧ h.get? T = some oT ∧ oT.data = .fields ts ∧
      (ts[3]? = some .none ∨ ∃ L, c.env.frame = some L ∧ ts[3]? = some (rawInt L)))
  keep : ∀ b o, h₀.get? b = some o → b ∉ c.stack.filterMap (·.frame) → h.get? b = some o
  slots : ∀ b o, h₀.get? b = some o → ∃ sl, h.get? b = some { o with slots := sl }

section
variable (W : Wd)

def Post (c : Cx) (g : Heap) (ρ : Rho) (loc : Loc) (s : Shared) (K : MV → Hp → Prop) : Value → Shared → Prop := fun v s' =>
  ∃ mv σ' g' ρ', K mv σ' ∧ Step c g ρ s g' ρ' s' ∧ Good W c g' ρ' loc σ' s' ∧ VRel g' ρ' mv v

def PostL (c : Cx) (g : Heap) (ρ : Rho) (loc : Loc) (s : Shared) (K : List MV → Hp → Prop) : List Value → Shared → Prop := fun vs s' =>
  ∃ mvs σ' g' ρ', K mvs σ' ∧ Step c g ρ s g' ρ' s' ∧ Good W c g' ρ' loc σ' s' ∧ VRels g' ρ' mvs vs

/-- for anything else: the result is plain data -/
def PostA {α : Type} (c : Cx) (g : Heap) (ρ : Rho) (loc : Loc) (s : Shared) (K : α → Hp → Prop) : α → Shared → Prop := fun a s' =>
  ∃ σ' g' ρ', K a σ' ∧ Step c g ρ s g' ρ' s' ∧ Good W c g' ρ' loc σ' s'

def XPost (c : Cx) (g : Heap) (ρ : Rho) (loc : Loc) (s : Shared) (KE : Xc → Hp → Prop) : Value → Shared → Prop := fun x s' =>
  ∃ xc σ' g' ρ' h₀, KE xc σ' ∧ Step c g ρ s g' ρ' { s' with heap := h₀ } ∧ Good W c g' ρ' loc σ' { s' with heap := h₀ } ∧ XFly c h₀ s'.heap x xc

abbrev Mo : Model := model W.prog W.w

/-- a tree that yields a value, in this frame -/
def Tr (n : Nat) (sc : Scope) (t : Cx → Sem Value) (loc : Loc) (σ : Hp) (K : MV → Hp → Prop) (KE : Xc → Hp → Prop) : Prop :=
  ∀ c g ρ s, COk W n sc c → Good W c g ρ loc σ s → wpAny (Mo W) c.A (t c) (Post W c g ρ loc s K) (XPost W c g ρ loc s KE) s

@[irreducible] def EvP (n : Nat) (sc : Scope) (e : Expr) (loc : Loc) (σ : Hp) (K : MV → Hp → Prop) (KE : Xc → Hp → Prop) : Prop :=
  ∀ c g ρ s, COk W n sc c → Good W c g ρ loc σ s → wpAny (Mo W) c.A (eval e c.env) (Post W c g ρ loc s K) (XPost W c g ρ loc s KE) s

@[irreducible] def EvsP (n : Nat) (sc : Scope) (es : List Expr) (loc : Loc) (σ : Hp) (K : List MV → Hp → Prop) (KE : Xc → Hp → Prop) : Prop :=
  ∀ c g ρ s pos, COk W n sc c → Good W c g ρ loc σ s → wpAny (Mo W) c.A (spliced (backTo pos (starEach es c.env))) (PostL W c g ρ loc s K) (XPost W c g ρ loc s KE) s

@[irreducible] def TsP (n : Nat) (sc : Scope) (e : Expr) (loc : Loc) (σ : Hp) (K : Bool → Hp → Prop) (KE : Xc → Hp → Prop) : Prop :=
  ∀ c g ρ s, COk W n sc c → Good W c g ρ loc σ s → wpAny (Mo W) c.A (isTrue e c.env (eval e c.env)) (PostA W c g ρ loc s K) (XPost W c g ρ loc s KE) s

/-- an operation upon values, in any frame -/
@[irreducible] def Op1 (n : Nat) (f : Value → Sem Value) (m : MV) (σ : Hp) (K : MV → Hp → Prop) (KE : Xc → Hp → Prop) : Prop :=
  ∀ sc c g ρ loc s v, COk W n sc c → Good W c g ρ loc σ s → VRel g ρ m v → wpAny (Mo W) c.A (f v) (Post W c g ρ loc s K) (XPost W c g ρ loc s KE) s
@[irreducible] def Op2 (n : Nat) (f : Value → Value → Sem Value) (m₁ m₂ : MV) (σ : Hp) (K : MV → Hp → Prop) (KE : Xc → Hp → Prop) : Prop :=
  ∀ sc c g ρ loc s v₁ v₂, COk W n sc c → Good W c g ρ loc σ s → VRel g ρ m₁ v₁ → VRel g ρ m₂ v₂ → wpAny (Mo W) c.A (f v₁ v₂) (Post W c g ρ loc s K) (XPost W c g ρ loc s KE) s
@[irreducible] def OpL (n : Nat) (f : List Value → Sem Value) (ms : List MV) (σ : Hp) (K : MV → Hp → Prop) (KE : Xc → Hp → Prop) : Prop :=
  ∀ sc c g ρ loc s vs, COk W n sc c → Good W c g ρ loc σ s → VRels g ρ ms vs → wpAny (Mo W) c.A (f vs) (Post W c g ρ loc s K) (XPost W c g ρ loc s KE) s
@[irreducible] def Tst (n : Nat) (m : MV) (σ : Hp) (K : Bool → Hp → Prop) (KE : Xc → Hp → Prop) : Prop :=
  ∀ sc c g ρ loc s v, COk W n sc c → Good W c g ρ loc σ s → VRel g ρ m v → wpAny (Mo W) c.A (truthy v) (PostA W c g ρ loc s K) (XPost W c g ρ loc s KE) s
end

section
variable {W : Wd} {c : Cx} {g g₁ : Heap} {ρ ρ₁ : Rho} {loc : Loc} {σ σ' : Hp} {s s₁ : Shared} {K K' : MV → Hp → Prop} {KE : Xc → Hp → Prop}

theorem Post.after (x : Step c g ρ s g₁ ρ₁ s₁) {v : Value} {s' : Shared} (h : Post W c g₁ ρ₁ loc s₁ K v s') : Post W c g ρ loc s K v s' := by
  obtain ⟨mv, σ', g', ρ', k, st, r⟩ := h
  exact ⟨mv, σ', g', ρ', k, x.trans st, r⟩
theorem PostL.after {K : List MV → Hp → Prop} (x : Step c g ρ s g₁ ρ₁ s₁) {v : List Value} {s' : Shared} (h : PostL W c g₁ ρ₁ loc s₁ K v s') : PostL W c g ρ loc s K v s' := by
  obtain ⟨mv, σ', g', ρ', k, st, r⟩ := h
  exact ⟨mv, σ', g', ρ', k, x.trans st, r⟩
theorem PostA.after {α : Type} {K : α → Hp → Prop} (x : Step c g ρ s g₁ ρ₁ s₁) {v : α} {s' : Shared} (h : PostA W c g₁ ρ₁ loc s₁ K v s') : PostA W c g ρ loc s K v s' := by
  obtain ⟨σ', g', ρ', k, st, r⟩ := h
  exact ⟨σ', g', ρ', k, x.trans st, r⟩
theorem XPost.after (x : Step c g ρ s g₁ ρ₁ s₁) {v : Value} {s' : Shared} (h : XPost W c g₁ ρ₁ loc s₁ KE v s') : XPost W c g ρ loc s KE v s' := by
  obtain ⟨xc, σ', g', ρ', h₀, k, st, r⟩ := h
  exact ⟨xc, σ', g', ρ', h₀, k, x.trans st, r⟩

/-- one tree after another -/
theorem wp_then {α β : Type} {t : Sem α} {f : α → Sem β} {Q₁ : α → Shared → Prop} {Q : β → Shared → Prop} {E : Value → Shared → Prop} {A : Around}
    (h : wpAny (Mo W) A t Q₁ E s) (k : ∀ a s₁, Q₁ a s₁ → wpAny (Mo W) A (f a) Q E s₁) : wpAny (Mo W) A (t >>= f) Q E s :=
  wpAny_bind (wpAny_mono h (fun a s₁ q => k a s₁ q) fun _ _ x => x)

theorem wp_after (x : Step c g ρ s g₁ ρ₁ s₁) {t : Sem Value} {A : Around} {s₂ : Shared} (h : wpAny (Mo W) A t (Post W c g₁ ρ₁ loc s₁ K) (XPost W c g₁ ρ₁ loc s₁ KE) s₂) :
    wpAny (Mo W) A t (Post W c g ρ loc s K) (XPost W c g ρ loc s KE) s₂ := wpAny_mono h (fun _ _ q => q.after x) fun _ _ q => q.after x
theorem wp_afterL {K : List MV → Hp → Prop} (x : Step c g ρ s g₁ ρ₁ s₁) {t : Sem (List Value)} {A : Around} {s₂ : Shared} (h : wpAny (Mo W) A t (PostL W c g₁ ρ₁ loc s₁ K) (XPost W c g₁ ρ₁ loc s₁ KE) s₂) :
    wpAny (Mo W) A t (PostL W c g ρ loc s K) (XPost W c g ρ loc s KE) s₂ := wpAny_mono h (fun _ _ q => q.after x) fun _ _ q => q.after x
theorem wp_afterA {α : Type} {K : α → Hp → Prop} (x : Step c g ρ s g₁ ρ₁ s₁) {t : Sem α} {A : Around} {s₂ : Shared} (h : wpAny (Mo W) A t (PostA W c g₁ ρ₁ loc s₁ K) (XPost W c g₁ ρ₁ loc s₁ KE) s₂) :
    wpAny (Mo W) A t (PostA W c g ρ loc s K) (XPost W c g ρ loc s KE) s₂ := wpAny_mono h (fun _ _ q => q.after x) fun _ _ q => q.after x

/-- nothing happened but the tokens' count -/
theorem Good.tok (G : Good W c g ρ loc σ s) (t : Nat) : Good W c g ρ loc σ { s with toks := t } := ⟨G.base, G.gh, G.gρ, G.ρd, G.len, G.objs, G.os, G.gens, G.gq, G.locs, G.ns, G.cel, G.kep⟩
theorem Step.tok (t : Nat) : Step c g ρ s g ρ { s with toks := t } := ⟨StaysIn.refl _, RLe.refl _, fun _ _ e p => ⟨e, p⟩⟩
theorem Post.now (G : Good W c g ρ loc σ s) {m : MV} {v : Value} (r : VRel g ρ m v) (h : K m σ) : Post W c g ρ loc s K v s := ⟨m, σ, g, ρ, h, .refl, G, r⟩
theorem Post.nowT (G : Good W c g ρ loc σ s) {m : MV} {v : Value} {t : Nat} (r : VRel g ρ m v) (h : K m σ) : Post W c g ρ loc s K v { s with toks := t } := ⟨m, σ, g, ρ, h, .tok t, G.tok t, r⟩
theorem PostA.now {α : Type} {K : α → Hp → Prop} (G : Good W c g ρ loc σ s) {a : α} (h : K a σ) : PostA W c g ρ loc s K a s := ⟨σ, g, ρ, h, .refl, G⟩

variable {n : Nat} {sc : Scope}

/-! names -/
theorem VHolds.load {h : Heap} {x : Str} {v : Value} {A : Around} {E : Value → Shared → Prop} {Q : Value → Shared → Prop} {pos : Pos} (H : VHolds c s.heap x v) (hk : c.env.scope.kind = .function)
    (hb : (x == ("__debug__" : Str)) = false) (hn : (x == ("__classdict__" : Str)) = false) (h : Q v s) : wpAny (Mo W) A (eval (.Name x pos) c.env) Q E s := by
  unfold VHolds at H
  split at H
  · rename_i e; obtain ⟨m, a, b⟩ := H
    exact wpAny_Name (wpAny_loadName_local hk e a b h) hb
  · rename_i e; obtain ⟨a, b, d⟩ := H
    exact wpAny_Name (wpAny_loadName_cell hk e b d h) hb
  · rename_i e; obtain ⟨a, b, d⟩ := H
    exact wpAny_Name (wpAny_loadName_free hk e b d h hn) hb
  · exact H.elim

theorem ev_local {x : Str} {pos : Pos} {m : MV} (hl : loc.lookup x = some m) (hb : (x == ("__debug__" : Str)) = false) (hn : (x == ("__classdict__" : Str)) = false) (h : K m σ) :
    EvP W n sc (.Name x pos) loc σ K KE := by with_unfolding_all exact (fun c g ρ s C G => by
  obtain ⟨v, H, r⟩ := G.locs x m hl
  exact H.load (h := s.heap) (by rw [C.scE]; exact C.kind) hb hn (Post.now G r h))

/-! constants -/
theorem ev_str {x : Str} {k : Nat} {pos : Pos} (h : K (.str x) σ) : EvP W n sc (.Constant (.str x) k pos) loc σ K KE := by with_unfolding_all exact (fun c g ρ s C G => by
  show wpAny _ _ (mkText x) _ _ _
  exact fun _ _ _ => Post.nowT G (.str x s.toks) h)
theorem ev_int {i : Int} {k : Nat} {pos : Pos} (h : K (.int i) σ) : EvP W n sc (.Constant (.int i) k pos) loc σ K KE := by with_unfolding_all exact (fun c g ρ s C G =>
  wpAny_Constant_int (Post.nowT G (.int i s.toks) h))
theorem ev_none {k : Nat} {pos : Pos} (h : K .none σ) : EvP W n sc (.Constant .none k pos) loc σ K KE := by with_unfolding_all exact (fun c g ρ s C G => fun _ _ _ => Post.now G .none h)
theorem ev_bool {b : Bool} {k : Nat} {pos : Pos} (h : K (.bool b) σ) : EvP W n sc (.Constant (.bool b) k pos) loc σ K KE := by with_unfolding_all exact (fun c g ρ s C G => fun _ _ _ => Post.now G (.bool b) h)

/-! two sides -/
theorem ev_binop {l r : Expr} {op : Operator} {pos : Pos} (h : EvP W n sc l loc σ (fun m₁ σ₁ => EvP W n sc r loc σ₁ (fun m₂ σ₂ => Op2 W n (binaryOp op) m₁ m₂ σ₂ K KE) KE) KE) :
    EvP W n sc (.BinOp l op r pos) loc σ K KE := by with_unfolding_all exact (fun c g ρ s C G => by
  refine wpAny_BinOp (wpAny_mono (h c g ρ s C G) (fun v₁ s₁ q₁ => ?_) fun _ _ x => x)
  obtain ⟨m₁, σ₁, g₁, ρ₁, k₁, st₁, G₁, r₁⟩ := q₁
  refine wpAny_mono (k₁ c g₁ ρ₁ s₁ C G₁) (fun v₂ s₂ q₂ => ?_) fun _ _ x => x.after st₁
  obtain ⟨m₂, σ₂, g₂, ρ₂, k₂, st₂, G₂, r₂⟩ := q₂
  exact wp_after (st₁.trans st₂) (k₂ sc c g₂ ρ₂ loc s₂ v₁ v₂ C G₂ (r₁.mono st₂.ge st₂.re) r₂))

theorem ev_compare {l r : Expr} {op : CmpOp} {pos : Pos} (h : EvP W n sc l loc σ (fun m₁ σ₁ => EvP W n sc r loc σ₁ (fun m₂ σ₂ => Op2 W n (compareOp op) m₁ m₂ σ₂ K KE) KE) KE)
    (hm : behindInMarks op r = false) : EvP W n sc (.Compare l [op] [r] pos) loc σ K KE := by with_unfolding_all exact (fun c g ρ s C G => by
  refine wpAny_Compare1 (wpAny_mono (h c g ρ s C G) (fun v₁ s₁ q₁ => ?_) fun _ _ x => x) hm
  obtain ⟨m₁, σ₁, g₁, ρ₁, k₁, st₁, G₁, r₁⟩ := q₁
  refine wpAny_mono (k₁ c g₁ ρ₁ s₁ C G₁) (fun v₂ s₂ q₂ => ?_) fun _ _ x => x.after st₁
  obtain ⟨m₂, σ₂, g₂, ρ₂, k₂, st₂, G₂, r₂⟩ := q₂
  exact wp_after (st₁.trans st₂) (k₂ sc c g₂ ρ₂ loc s₂ v₁ v₂ C G₂ (r₁.mono st₂.ge st₂.re) r₂))

/-! tests -/
theorem ts_compare {l r : Expr} {op : CmpOp} {pos : Pos} {K : Bool → Hp → Prop} (h : EvP W n sc l loc σ (fun m₁ σ₁ => EvP W n sc r loc σ₁ (fun m₂ σ₂ => Op2 W n (compareOp op) m₁ m₂ σ₂ (fun m₃ σ₃ => Tst W n m₃ σ₃ K KE) KE) KE) KE)
    (hm : behindInMarks op r = false) : TsP W n sc (.Compare l [op] [r] pos) loc σ K KE := by with_unfolding_all exact (fun c g ρ s C G => by
  refine wpAny_isTrue_Compare1 (wpAny_mono (h c g ρ s C G) (fun v₁ s₁ q₁ => ?_) fun _ _ x => x) hm
  obtain ⟨m₁, σ₁, g₁, ρ₁, k₁, st₁, G₁, r₁⟩ := q₁
  refine wpAny_mono (k₁ c g₁ ρ₁ s₁ C G₁) (fun v₂ s₂ q₂ => ?_) fun _ _ x => x.after st₁
  obtain ⟨m₂, σ₂, g₂, ρ₂, k₂, st₂, G₂, r₂⟩ := q₂
  refine wpAny_mono (k₂ sc c g₂ ρ₂ loc s₂ v₁ v₂ C G₂ (r₁.mono st₂.ge st₂.re) r₂) (fun v₃ s₃ q₃ => ?_) fun _ _ x => x.after (st₁.trans st₂)
  obtain ⟨m₃, σ₃, g₃, ρ₃, k₃, st₃, G₃, r₃⟩ := q₃
  exact wp_afterA ((st₁.trans st₂).trans st₃) (k₃ sc c g₃ ρ₃ loc s₃ v₃ C G₃ r₃))

theorem tst_bool {b : Bool} {K : Bool → Hp → Prop} (h : K b σ) : Tst W n (.bool b) σ K KE := by with_unfolding_all exact (fun sc c g ρ loc s v C G r => by
  cases r; exact wpAny_truthy_bool (PostA.now G h))

end
end
section
open PySem PySem.W PyProof.Rows
section
variable {W : Wd} {c : Cx} {g g₁ : Heap} {ρ ρ₁ : Rho} {loc : Loc} {σ σ' : Hp} {s s₁ : Shared} {K K' : MV → Hp → Prop} {KE : Xc → Hp → Prop} {n : Nat} {sc : Scope}

theorem VRels.one {m : MV} {v : Value} (r : VRel g ρ m v) : VRels g ρ [m] [v] := .cons r .nil

/-! lists of expressions -/
theorem evs_nil {K : List MV → Hp → Prop} (h : K [] σ) : EvsP W n sc [] loc σ K KE := by with_unfolding_all exact (fun c g ρ s pos C G =>
  wpAny_pure ⟨[], σ, g, ρ, h, .refl, G, .nil⟩)

theorem evs_cons {e : Expr} {es : List Expr} {K : List MV → Hp → Prop} (h : EvP W n sc e loc σ (fun m σ₁ => EvsP W n sc es loc σ₁ (fun ms σ₂ => K (m :: ms) σ₂) KE) KE)
    (he : ∀ env, starEach (e :: es) env = (false, eval e env) :: starEach es env) : EvsP W n sc (e :: es) loc σ K KE := by with_unfolding_all exact (fun c g ρ s pos C G => by
  rw [he]
  show wpAny _ _ (do
    let v ← eval e c.env
    let here ← pure [v]
    return here ++ (← holding here (spliced (backTo pos (starEach es c.env))))) _ _ s
  refine wpAny_bind (wpAny_mono (h c g ρ s C G) (fun v s₁ q₁ => ?_) fun _ _ x => x)
  obtain ⟨m, σ₁, g₁, ρ₁, k₁, st₁, G₁, r₁⟩ := q₁
  refine wpAny_bind (wpAny_pure (wpAny_bind (wpAny_holding (wpAny_mono (k₁ c g₁ ρ₁ s₁ pos C G₁) (fun vs s₂ q₂ => wpAny_pure ?_) fun _ _ x => x.after st₁))))
  obtain ⟨ms, σ₂, g₂, ρ₂, k₂, st₂, G₂, r₂⟩ := q₂
  exact ⟨m :: ms, σ₂, g₂, ρ₂, k₂, st₁.trans st₂, G₂, .cons (r₁.mono st₂.ge st₂.re) r₂⟩)

/-! displays -/
theorem tup_of_obj {h : Heap} {a : Addr} {vs : Array Value} (e : h.get? a = some { cls := .type "tuple", data := .seq vs }) : IsTup h a vs := ⟨_, e, rfl, _, rfl⟩

theorem newTuple_ok {vs : List Value} {ms : List MV} {A : Around} (G : Good W c g ρ loc σ s) (r : VRels g ρ ms vs) (hz : vs.length ≤ 1000) (h : K (.tup ms) σ) :
    wpAny (Mo W) A (newTuple vs) (Post W c g ρ loc s K) (XPost W c g ρ loc s KE) s := by
  unfold newTuple
  obtain ⟨G', st, e⟩ := G.alloc (o := { cls := .type "tuple", data := .seq vs.toArray }) rfl (t := s.toks)
  exact wpAny_newObj_type ⟨.tup ms, σ, _, ρ, h, st, G', .tup (n := 0) e (r.mono st.ge st.re)⟩ (by show vs.toArray.size ≤ sizeLine; rw [List.size_toArray, sizeLine_eq]; omega)

theorem newList_ok {vs : List Value} {ms : List MV} {A : Around} (G : Good W c g ρ loc σ s) (r : VRels g ρ ms vs) (hz : vs.length ≤ 1000) (h : K (.lst ms) σ) :
    wpAny (Mo W) A (newList vs) (Post W c g ρ loc s K) (XPost W c g ρ loc s KE) s := by
  unfold newList
  obtain ⟨G', st, e⟩ := G.alloc (o := { cls := .type "list", data := .seq vs.toArray }) rfl (t := s.toks)
  exact wpAny_newObj_type ⟨.lst ms, σ, _, ρ, h, st, G', .lst (n := 0) e (r.mono st.ge st.re)⟩ (by show vs.toArray.size ≤ sizeLine; rw [List.size_toArray, sizeLine_eq]; omega)

theorem ev_tuple {es : List Expr} {k : Nat} {pos : Pos} (h : EvsP W n sc es loc σ (fun ms σ₁ => ms.length ≤ 1000 ∧ K (.tup ms) σ₁) KE) : EvP W n sc (.Tuple es k pos) loc σ K KE := by with_unfolding_all exact (fun c g ρ s C G => by
  refine Tuple_ (wpAny_mono (h c g ρ s pos C G) (fun vs s₁ q => ?_) fun _ _ x => x)
  obtain ⟨ms, σ₁, g₁, ρ₁, ⟨hz, k₁⟩, st₁, G₁, r₁⟩ := q
  exact wp_after st₁ (newTuple_ok G₁ r₁ (r₁.length ▸ hz) k₁))
theorem ev_list {es : List Expr} {pos : Pos} (h : EvsP W n sc es loc σ (fun ms σ₁ => ms.length ≤ 1000 ∧ K (.lst ms) σ₁) KE) : EvP W n sc (.List es pos) loc σ K KE := by with_unfolding_all exact (fun c g ρ s C G => by
  refine List_ (wpAny_mono (h c g ρ s pos C G) (fun vs s₁ q => ?_) fun _ _ x => x)
  obtain ⟨ms, σ₁, g₁, ρ₁, ⟨hz, k₁⟩, st₁, G₁, r₁⟩ := q
  exact wp_after st₁ (newList_ok G₁ r₁ (r₁.length ▸ hz) k₁))

/-! a new handle -/
theorem getElem?_snoc {α : Type} {l : List α} {x y : α} {i : Nat} (h : (l ++ [x])[i]? = some y) : l[i]? = some y ∨ (i = l.length ∧ y = x) := by
  rcases Nat.lt_trichotomy i l.length with q | q | q
  · rw [List.getElem?_append_left q] at h; exact .inl h
  · subst q; simp at h; exact .inr ⟨rfl, h.symm⟩
  · rw [List.getElem?_append_right (Nat.le_of_lt q)] at h
    have : i - l.length ≠ 0 := by omega
    cases e : i - l.length with
    | zero => exact absurd e this
    | succ k => rw [e] at h; simp at h

/-- a private address (with its aux) becomes a handle -/
theorem Good.adopt (G : Good W c g ρ loc σ s) {p : Addr × Addr} {o : MO} (P1 : Priv c g ρ p.1) (P2 : Priv c g ρ p.2) (r : ORel g (ρ ++ [p]) s.heap s.gens p o)
    (hgen : ∀ x, s.heap.IsGen p.1 x → x < s.gens.size ∧ ∀ q ∈ ρ, ∀ y, s.heap.IsGen q.1 y → x ≠ y) :
    Good W c g (ρ ++ [p]) loc (σ ++ [o]) s := by
  have re := RLe.append ρ [p]
  have mem : ∀ q, q ∈ ρ ++ [p] → q ∈ ρ ∨ q = p := fun q hq => by simpa using hq
  refine ⟨G.base, G.gh, fun q hq => ?_, ?_, by simp [G.len], fun i q o' e1 e2 => ?_, G.os, G.gens, fun i j q q' e1 e2 x y h1 h2 => ?_, fun x mv e => ?_, ⟨G.ns.1, G.ns.2.1, fun q hq => ?_⟩, fun x hx => ⟨(G.cel x hx).1, (G.cel x hx).2.1, fun q hq => ?_⟩, fun k hk => ⟨(G.kep k hk).1, (G.kep k hk).2.1, fun q hq => ?_⟩⟩
  · rcases mem q hq with h | rfl
    · exact G.gρ q h
    · exact ⟨P1.g, P2.g⟩
  · refine List.pairwise_append.mpr ⟨G.ρd, List.pairwise_singleton _ _, fun a ha b hb => ?_⟩
    rw [List.mem_singleton] at hb; subst hb
    exact ⟨(P1.r a ha).1, (P2.r a ha).1, (P1.r a ha).2, (P2.r a ha).2⟩
  · rcases getElem?_snoc e1 with h | ⟨h, rfl⟩
    · have hi : i < σ.length := by rw [G.len]; exact (List.getElem?_eq_some_iff.mp h).1
      rw [List.getElem?_append_left hi] at e2
      exact (G.objs i q o' h e2).mono (StaysIn.refl _) re rfl rfl (fun _ _ => rfl)
    · rcases getElem?_snoc e2 with h2 | ⟨_, rfl⟩
      · have := (List.getElem?_eq_some_iff.mp h2).1
        rw [G.len] at this; omega
      · exact r
  · rcases getElem?_snoc e1 with f1 | ⟨i1, rfl⟩ <;> rcases getElem?_snoc e2 with f2 | ⟨i2, rfl⟩
    · exact G.gq i j q q' f1 f2 x y h1 h2
    · refine ⟨(G.gq i i q q f1 f1 x x h1 h1).1, fun _ e => (hgen y h2).2 q (List.mem_of_getElem? f1) x h1 e.symm⟩
    · exact ⟨(hgen x h1).1, fun _ => (hgen x h1).2 q' (List.mem_of_getElem? f2) y h2⟩
    · exact ⟨(hgen x h1).1, fun ne => absurd (i1.trans i2.symm) ne⟩
  · obtain ⟨v, H, z⟩ := G.locs x mv e
    exact ⟨v, H, z.mono (StaysIn.refl _) re⟩
  · rcases mem q hq with h | rfl
    · exact G.ns.2.2 q h
    · exact ⟨fun e => P1.l e.symm, fun e => P2.l e.symm⟩
  · rcases mem q hq with h | rfl
    · exact (G.cel x hx).2.2 q h
    · exact ⟨fun e => P1.cl x hx e.symm, fun e => P2.cl x hx e.symm⟩
  · rcases mem q hq with h | rfl
    · exact (G.kep k hk).2.2 q h
    · exact ⟨fun e => P1.k k hk e.symm, fun e => P2.k k hk e.symm⟩

/-- a new object, a handle -/
theorem Good.allocM (G : Good W c g ρ loc σ s) {o : Obj} {mo : MO} (ho : o.isFreed = false) {t : Nat}
    (r : ∀ h', h'.get? s.heap.objs.size = some o → (∀ b ob, s.heap.get? b = some ob → h'.get? b = some ob) → ORel g (ρ ++ [(s.heap.objs.size, s.heap.objs.size)]) h' s.gens (s.heap.objs.size, s.heap.objs.size) mo) (hng : (o.cls == .type "generator") = false) :
    Good W c g (ρ ++ [(s.heap.objs.size, s.heap.objs.size)]) loc (σ ++ [mo]) { s with heap := s.heap.push o, toks := t } ∧
      Step c g ρ s g (ρ ++ [(s.heap.objs.size, s.heap.objs.size)]) { s with heap := s.heap.push o, toks := t } := by
  have fr : s.heap.get? s.heap.objs.size = none := Heap.get?_none_of_le (Nat.le_refl _)
  have P := G.fresh fr
  have ne : ∀ {b : Nat} {o'}, s.heap.get? b = some o' → b ≠ s.heap.objs.size := fun e q => by rw [q, fr] at e; cases e
  have G1 : Good W c g ρ loc σ { s with heap := s.heap.push o, toks := t } := G.move (fun b o' e _ => Heap.get?_push_of_some _ e) rfl rfl
  refine ⟨G1.adopt P P (r _ (Heap.get?_push_size _ ho) fun b ob e => Heap.get?_push_of_some _ e) (fun x h => (by
    obtain ⟨o', nm, qn, ho', hc, _⟩ := h
    have e := (Heap.get?_push_size s.heap ho).symm.trans ho'
    cases e
    rw [hc] at hng; simp at hng)), StaysIn.refl _, RLe.append _ _, fun a o' e p => ⟨Heap.get?_push_of_some _ e, ⟨p.g, fun q hq => ?_, p.l, p.cl, p.k⟩⟩⟩
  rcases List.mem_append.mp hq with h | h
  · exact p.r q h
  · rw [List.mem_singleton] at h; subst h
    exact ⟨fun q => ne e q.symm, fun q => ne e q.symm⟩

/-- an empty display that is to be filled -/
theorem ev_list_new {pos : Pos} (h : K (.obj σ.length) (σ ++ [.list []])) : EvP W n sc (.List [] pos) loc σ K KE := by with_unfolding_all exact (fun c g ρ s C G => by
  refine List_ (wpAny_pure ?_)
  unfold newList
  obtain ⟨G', st⟩ := G.allocM (o := { cls := .type "list", data := .seq #[] }) (mo := .list []) rfl (t := s.toks) (fun h' e _ => ORel.list (vs := []) e .nil) rfl
  refine wpAny_newObj_type ⟨.obj σ.length, _, g, _, h, st, G', ?_⟩ (Nat.zero_le _)
  have : (ρ ++ [(s.heap.objs.size, s.heap.objs.size)])[σ.length]? = some (s.heap.objs.size, s.heap.objs.size) := by rw [G.len]; simp
  exact .obj (p := (s.heap.objs.size, s.heap.objs.size)) this)

/-! tests -/
theorem ts_not {e : Expr} {pos : Pos} {K : Bool → Hp → Prop} (h : TsP W n sc e loc σ (fun b σ₁ => K (!b) σ₁) KE) : TsP W n sc (.UnaryOp .Not e pos) loc σ K KE := by with_unfolding_all exact (fun c g ρ s C G => by
  refine isTrue_not (wpAny_mono (h c g ρ s C G) (fun b s₁ q => q) fun _ _ x => x))
theorem ts_and_nil {pos : Pos} {K : Bool → Hp → Prop} (h : K true σ) : TsP W n sc (.BoolOp .And [] pos) loc σ K KE := by with_unfolding_all exact (fun c g ρ s C G => isTrue_and_nil (PostA.now G h))
theorem ts_or_nil {pos : Pos} {K : Bool → Hp → Prop} (h : K false σ) : TsP W n sc (.BoolOp .Or [] pos) loc σ K KE := by with_unfolding_all exact (fun c g ρ s C G => isTrue_or_nil (PostA.now G h))
theorem ts_and {e : Expr} {es : List Expr} {pos : Pos} {K : Bool → Hp → Prop} (h : TsP W n sc e loc σ (fun b σ₁ => (b = true → TsP W n sc (.BoolOp .And es pos) loc σ₁ K KE) ∧ (b = false → K false σ₁)) KE) :
    TsP W n sc (.BoolOp .And (e :: es) pos) loc σ K KE := by with_unfolding_all exact (fun c g ρ s C G => by
  refine isTrue_and (wpAny_mono (h c g ρ s C G) (fun b s₁ q => ?_) fun _ _ x => x)
  obtain ⟨σ₁, g₁, ρ₁, ⟨k1, k2⟩, st₁, G₁⟩ := q
  cases b with
  | true => exact wp_afterA st₁ (k1 rfl c g₁ ρ₁ s₁ C G₁)
  | false => exact ⟨σ₁, g₁, ρ₁, k2 rfl, st₁, G₁⟩)
theorem ts_or {e : Expr} {es : List Expr} {pos : Pos} {K : Bool → Hp → Prop} (h : TsP W n sc e loc σ (fun b σ₁ => (b = false → TsP W n sc (.BoolOp .Or es pos) loc σ₁ K KE) ∧ (b = true → K true σ₁)) KE) :
    TsP W n sc (.BoolOp .Or (e :: es) pos) loc σ K KE := by with_unfolding_all exact (fun c g ρ s C G => by
  refine isTrue_or (wpAny_mono (h c g ρ s C G) (fun b s₁ q => ?_) fun _ _ x => x)
  obtain ⟨σ₁, g₁, ρ₁, ⟨k1, k2⟩, st₁, G₁⟩ := q
  cases b with
  | true => exact ⟨σ₁, g₁, ρ₁, k2 rfl, st₁, G₁⟩
  | false => exact wp_afterA st₁ (k1 rfl c g₁ ρ₁ s₁ C G₁))
/-- any other test: the value, then its truth -/
theorem ts_val {e : Expr} {K : Bool → Hp → Prop} (h : EvP W n sc e loc σ (fun m σ₁ => Tst W n m σ₁ K KE) KE)
    (he : ∀ env (whole : Sem Value), isTrue e env whole = (do let v ← whole; standAt e.pos; holding [v] (truthy v))) : TsP W n sc e loc σ K KE := by with_unfolding_all exact (fun c g ρ s C G => by
  refine isTrue_plain (wpAny_mono (h c g ρ s C G) (fun v s₁ q => ?_) fun _ _ x => x) (he _ _)
  obtain ⟨m, σ₁, g₁, ρ₁, k₁, st₁, G₁, r₁⟩ := q
  exact wp_afterA st₁ (k₁ sc c g₁ ρ₁ loc s₁ v C G₁ r₁))

/-! values by a test -/
theorem ev_ifexp {t a b : Expr} {pos : Pos} (h : TsP W n sc t loc σ (fun x σ₁ => (x = true → EvP W n sc a loc σ₁ K KE) ∧ (x = false → EvP W n sc b loc σ₁ K KE)) KE) : EvP W n sc (.IfExp t a b pos) loc σ K KE := by with_unfolding_all exact (fun c g ρ s C G => by
  refine IfExp_ (wpAny_mono (h c g ρ s C G) (fun x s₁ q => ?_) fun _ _ x => x)
  obtain ⟨σ₁, g₁, ρ₁, ⟨k1, k2⟩, st₁, G₁⟩ := q
  cases x with
  | true => exact wp_after st₁ (k1 rfl c g₁ ρ₁ s₁ C G₁)
  | false => exact wp_after st₁ (k2 rfl c g₁ ρ₁ s₁ C G₁))
theorem ev_and {e₁ e₂ : Expr} {es : List Expr} {pos : Pos} (h : EvP W n sc e₁ loc σ (fun m σ₁ => Tst W n m σ₁ (fun b σ₂ => (b = true → EvP W n sc (.BoolOp .And (e₂ :: es) pos) loc σ₂ K KE) ∧ (b = false → K m σ₂)) KE) KE) :
    EvP W n sc (.BoolOp .And (e₁ :: e₂ :: es) pos) loc σ K KE := by with_unfolding_all exact (fun c g ρ s C G => by
  refine BoolOp_and (wpAny_mono (h c g ρ s C G) (fun v s₁ q => ?_) fun _ _ x => x)
  obtain ⟨m, σ₁, g₁, ρ₁, k₁, st₁, G₁, r₁⟩ := q
  refine wpAny_mono (k₁ sc c g₁ ρ₁ loc s₁ v C G₁ r₁) (fun b s₂ q => ?_) fun _ _ x => x.after st₁
  obtain ⟨σ₂, g₂, ρ₂, ⟨k1, k2⟩, st₂, G₂⟩ := q
  cases b with
  | true => exact wp_after (st₁.trans st₂) (k1 rfl c g₂ ρ₂ s₂ C G₂)
  | false => exact ⟨m, σ₂, g₂, ρ₂, k2 rfl, st₁.trans st₂, G₂, r₁.mono st₂.ge st₂.re⟩)
theorem ev_bool_one {op : BoolOp} {e : Expr} {pos : Pos} (h : EvP W n sc e loc σ K KE) : EvP W n sc (.BoolOp op [e] pos) loc σ K KE := by with_unfolding_all exact (fun c g ρ s C G => BoolOp_one (h c g ρ s C G))

/-! operations upon the values of several expressions -/
theorem Op1.run {f : Value → Sem Value} {m : MV} (o : Op1 W n f m σ K KE) {v : Value} (C : COk W n sc c) (G : Good W c g ρ loc σ s) (r : VRel g ρ m v) :
    wpAny (Mo W) c.A (f v) (Post W c g ρ loc s K) (XPost W c g ρ loc s KE) s := by with_unfolding_all exact (o sc c g ρ loc s v C G r)

end
end
section
open PySem PySem.W PyProof.Rows
inductive Fl where
  | next | brk | cont
  | ret (m : MV)

inductive FRel (g : Heap) (ρ : Rho) : Fl → Flow → Prop
  | next : FRel g ρ .next .next
  | brk : FRel g ρ .brk .brk
  | cont : FRel g ρ .cont .cont
  | ret {m v} : VRel g ρ m v → FRel g ρ (.ret m) (.ret v)

section
variable (W : Wd)
def SPost (c : Cx) (g : Heap) (ρ : Rho) (s : Shared) (K : Fl → Loc → Hp → Prop) : Flow → Shared → Prop := fun f s' =>
  ∃ fl loc' σ' g' ρ', K fl loc' σ' ∧ Step c g ρ s g' ρ' s' ∧ Good W c g' ρ' loc' σ' s' ∧ FRel g' ρ' fl f
def SXPost (c : Cx) (g : Heap) (ρ : Rho) (s : Shared) (KE : Xc → Loc → Hp → Prop) : Value → Shared → Prop := fun x s' =>
  ∃ xc loc' σ' g' ρ' h₀, KE xc loc' σ' ∧ Step c g ρ s g' ρ' { s' with heap := h₀ } ∧ Good W c g' ρ' loc' σ' { s' with heap := h₀ } ∧ XFly c h₀ s'.heap x xc
/-- for a store, or anything else that turns the names -/
def UPost (c : Cx) (g : Heap) (ρ : Rho) (s : Shared) (K : Loc → Hp → Prop) : Unit → Shared → Prop := fun _ s' =>
  ∃ loc' σ' g' ρ', K loc' σ' ∧ Step c g ρ s g' ρ' s' ∧ Good W c g' ρ' loc' σ' s'

@[irreducible] def ExP (n : Nat) (sc : Scope) (st : Stmt) (loc : Loc) (σ : Hp) (K : Fl → Loc → Hp → Prop) (KE : Xc → Loc → Hp → Prop) : Prop :=
  ∀ c g ρ s, COkS W n sc c → Good W c g ρ loc σ s → wpAny (Mo W) c.A (exec st c.env) (SPost W c g ρ s K) (SXPost W c g ρ s KE) s
@[irreducible] def ExsP (n : Nat) (sc : Scope) (sts : List Stmt) (loc : Loc) (σ : Hp) (K : Fl → Loc → Hp → Prop) (KE : Xc → Loc → Hp → Prop) : Prop :=
  ∀ c g ρ s, COkS W n sc c → Good W c g ρ loc σ s → wpAny (Mo W) c.A (execs sts c.env) (SPost W c g ρ s K) (SXPost W c g ρ s KE) s
/-- a value goes to a target -/
@[irreducible] def AsP (n : Nat) (sc : Scope) (t : Expr) (m : MV) (loc : Loc) (σ : Hp) (K : Loc → Hp → Prop) (KE : Xc → Loc → Hp → Prop) : Prop :=
  ∀ c g ρ s v, COkS W n sc c → Good W c g ρ loc σ s → VRel g ρ m v → wpAny (Mo W) c.A (assign t c.env v) (UPost W c g ρ s K) (SXPost W c g ρ s KE) s
end

section
variable {W : Wd} {c : Cx} {g g₁ : Heap} {ρ ρ₁ : Rho} {loc : Loc} {σ σ' : Hp} {s s₁ : Shared} {n : Nat} {sc : Scope}
variable {K : Fl → Loc → Hp → Prop} {KE : Xc → Loc → Hp → Prop}

theorem SPost.after (x : Step c g ρ s g₁ ρ₁ s₁) {v : Flow} {s' : Shared} (h : SPost W c g₁ ρ₁ s₁ K v s') : SPost W c g ρ s K v s' := by
  obtain ⟨mv, l', σ', g', ρ', k, st, r⟩ := h
  exact ⟨mv, l', σ', g', ρ', k, x.trans st, r⟩
theorem SXPost.after (x : Step c g ρ s g₁ ρ₁ s₁) {v : Value} {s' : Shared} (h : SXPost W c g₁ ρ₁ s₁ KE v s') : SXPost W c g ρ s KE v s' := by
  obtain ⟨xc, l', σ', g', ρ', h₀, k, st, r⟩ := h
  exact ⟨xc, l', σ', g', ρ', h₀, k, x.trans st, r⟩
theorem UPost.after {K : Loc → Hp → Prop} (x : Step c g ρ s g₁ ρ₁ s₁) {v : Unit} {s' : Shared} (h : UPost W c g₁ ρ₁ s₁ K v s') : UPost W c g ρ s K v s' := by
  obtain ⟨l', σ', g', ρ', k, st, r⟩ := h
  exact ⟨l', σ', g', ρ', k, x.trans st, r⟩
theorem XPost.toS {x : Value} {s' : Shared} (h : XPost W c g ρ loc s (fun x σ => KE x loc σ) x s') : SXPost W c g ρ s KE x s' := by
  obtain ⟨xc, σ', g', ρ', h₀, k, st, r⟩ := h
  exact ⟨xc, loc, σ', g', ρ', h₀, k, st, r⟩
theorem wp_afterS (x : Step c g ρ s g₁ ρ₁ s₁) {t : Sem Flow} {A : Around} {s₂ : Shared} (h : wpAny (Mo W) A t (SPost W c g₁ ρ₁ s₁ K) (SXPost W c g₁ ρ₁ s₁ KE) s₂) :
    wpAny (Mo W) A t (SPost W c g ρ s K) (SXPost W c g ρ s KE) s₂ := wpAny_mono h (fun _ _ q => q.after x) fun _ _ q => q.after x
theorem wp_afterU {K : Loc → Hp → Prop} (x : Step c g ρ s g₁ ρ₁ s₁) {t : Sem Unit} {A : Around} {s₂ : Shared} (h : wpAny (Mo W) A t (UPost W c g₁ ρ₁ s₁ K) (SXPost W c g₁ ρ₁ s₁ KE) s₂) :
    wpAny (Mo W) A t (UPost W c g ρ s K) (SXPost W c g ρ s KE) s₂ := wpAny_mono h (fun _ _ q => q.after x) fun _ _ q => q.after x

theorem SPost.now (G : Good W c g ρ loc σ s) {fl : Fl} {f : Flow} (r : FRel g ρ fl f) (h : K fl loc σ) : SPost W c g ρ s K f s := ⟨fl, loc, σ, g, ρ, h, .refl, G, r⟩

/-! blocks -/
theorem exs_nil (h : K .next loc σ) : ExsP W n sc [] loc σ K KE := by with_unfolding_all exact (fun c g ρ s C G => wpAny_execs_nil (SPost.now G .next h))
theorem exs_cons {st : Stmt} {sts : List Stmt} (h : ExP W n sc st loc σ (fun fl loc₁ σ₁ => match fl with | .next => ExsP W n sc sts loc₁ σ₁ K KE | fl => K fl loc₁ σ₁) KE) :
    ExsP W n sc (st :: sts) loc σ K KE := by with_unfolding_all exact (fun c g ρ s C G => by
  refine wpAny_execs_cons (wpAny_mono (h c g ρ s C G) (fun f s₁ q => ?_) fun _ _ x => x)
  obtain ⟨fl, l₁, σ₁, g₁, ρ₁, k, st₁, G₁, r⟩ := q
  cases r with
  | next => exact wp_afterS st₁ (k c g₁ ρ₁ s₁ C G₁)
  | brk => exact ⟨.brk, l₁, σ₁, g₁, ρ₁, k, st₁, G₁, .brk⟩
  | cont => exact ⟨.cont, l₁, σ₁, g₁, ρ₁, k, st₁, G₁, .cont⟩
  | ret r => exact ⟨.ret _, l₁, σ₁, g₁, ρ₁, k, st₁, G₁, .ret r⟩)

theorem ex_return {e : Expr} {pos : Pos} (h : EvP W n sc e loc σ (fun m σ₁ => K (.ret m) loc σ₁) (fun x σ₁ => KE x loc σ₁)) : ExP W n sc (.Return (some e) pos) loc σ K KE := by with_unfolding_all exact (fun c g ρ s C G => by
  refine wpAny_Return_some (wpAny_mono (h c g ρ s C.toCOk G) (fun v s₁ q => ?_) fun _ _ x => x.toS)
  obtain ⟨m, σ₁, g₁, ρ₁, k, st₁, G₁, r⟩ := q
  exact ⟨.ret m, loc, σ₁, g₁, ρ₁, k, st₁, G₁, .ret r⟩)
theorem ex_return_none {pos : Pos} (h : K (.ret .none) loc σ) : ExP W n sc (.Return none pos) loc σ K KE := by with_unfolding_all exact (fun c g ρ s C G => wpAny_Return_none (SPost.now G (.ret .none) h))
theorem ex_pass {pos : Pos} (h : K .next loc σ) : ExP W n sc (.Pass pos) loc σ K KE := by with_unfolding_all exact (fun c g ρ s C G => wpAny_Pass (SPost.now G .next h))
theorem ex_break {pos : Pos} (h : K .brk loc σ) : ExP W n sc (.Break pos) loc σ K KE := by with_unfolding_all exact (fun c g ρ s C G => by
  show wpAny _ _ (do standAt pos; pure Flow.brk) _ _ s
  exact wpAny_bind (wpAny_standAt (wpAny_pure (SPost.now G .brk h))))
theorem ex_if {t : Expr} {a b : List Stmt} {pos : Pos} (h : TsP W n sc t loc σ (fun x σ₁ => (x = true → ExsP W n sc a loc σ₁ K KE) ∧ (x = false → ExsP W n sc b loc σ₁ K KE)) (fun x σ₁ => KE x loc σ₁)) :
    ExP W n sc (.If t a b pos) loc σ K KE := by with_unfolding_all exact (fun c g ρ s C G => by
  refine wpAny_If (wpAny_mono (h c g ρ s C.toCOk G) (fun x s₁ q => ?_) fun _ _ x => x.toS)
  obtain ⟨σ₁, g₁, ρ₁, ⟨k1, k2⟩, st₁, G₁⟩ := q
  cases x with
  | true => exact wp_afterS st₁ (k1 rfl c g₁ ρ₁ s₁ C G₁)
  | false => exact wp_afterS st₁ (k2 rfl c g₁ ρ₁ s₁ C G₁))

theorem COk.interactive (C : COk W n sc c) : interactive c.env = false := by
  unfold PySem.interactive
  rw [C.scE, C.kind]; rfl
theorem ex_expr {e : Expr} {pos : Pos} (h : EvP W n sc e loc σ (fun m σ₁ => m = .none ∧ K .next loc σ₁) (fun x σ₁ => KE x loc σ₁)) (hs : ∀ env, swapsWith e none pos.line env = pure false) :
    ExP W n sc (.Expr e pos) loc σ K KE := by with_unfolding_all exact (fun c g ρ s C G => by
  refine wpAny_Expr (wpAny_mono (h c g ρ s C.toCOk G) (fun v s₁ q => ?_) fun _ _ x => x.toS) C.interactive (hs _)
  obtain ⟨m, σ₁, g₁, ρ₁, ⟨rfl, k⟩, st₁, G₁, r⟩ := q
  cases r
  exact ⟨.next, loc, σ₁, g₁, ρ₁, k, st₁, G₁, .next⟩)

/-! stores -/
def storable (k : Option NameKind) : Bool := match k with
  | some .local => true
  | some .cell => true
  | _ => false

theorem lookup_cons {x y : Str} {m : MV} {l : Loc} {mv : MV} (h : ((x, m) :: l).lookup y = some mv) : (y = x ∧ mv = m) ∨ (y ≠ x ∧ l.lookup y = some mv) := by
  rw [List.lookup_cons] at h
  cases hb : y == x with
  | true => rw [hb] at h; cases h; exact .inl ⟨beq_iff_eq.mp hb, rfl⟩
  | false => rw [hb] at h; exact .inr ⟨fun e => by rw [e] at hb; simp at hb, h⟩

theorem store_ok {x : Str} {m : MV} {v : Value} {Q : Unit → Shared → Prop} {E : Value → Shared → Prop} {A : Around} (C : COk W n sc c) (G : Good W c g ρ loc σ s) (r : VRel g ρ m v) (hs : storable (sc.names.lookup x) = true)
    (hc : sc.names.lookup x = some .cell → COkS W n sc c)
    (h : ∀ s', Good W c g ρ ((x, m) :: loc) σ s' → Step c g ρ s g ρ s' → Q () s') : wpAny (Mo W) A (storeName c.env x v) Q E s := by
  have hk : c.env.scope.kind = .function := by rw [C.scE]; exact C.kind
  have kO : c.env.kindOf x = sc.names.lookup x := by unfold Env.kindOf; rw [C.scE]
  cases e : sc.names.lookup x with
  | none => rw [e] at hs; cases hs
  | some k =>
    rw [e] at hs hc kO
    cases k with
    | «local» =>
      obtain ⟨m₀, hm₀⟩ := G.ns.1
      refine wpAny_storeName_local kO hm₀ (fun h' hn hsb => h _ ?_ ?_) (by rw [hk]; rfl)
      · have ne : ∀ {b : Addr}, b ≠ c.env.locals → h'.get? b = s.heap.get? b := fun hb => hsb.2 _ hb
        refine ⟨G.base, fun b o eb => (ne fun q => by rw [q, G.ns.2.1] at eb; cases eb).trans (G.gh b o eb), G.gρ, G.ρd, G.len, fun i p o e1 e2 => ?_, G.os, G.gens, G.gqOf (fun p hp => ne (G.ns.2.2 p hp).1), fun y mv hy => ?_, ⟨⟨_, hn⟩, G.ns.2⟩, fun y hy => ⟨?_, (G.cel y hy).2⟩, fun q hq => ⟨?_, (G.kep q hq).2⟩⟩
        · have := G.ns.2.2 p (List.mem_of_getElem? e1)
          exact (G.objs i p o e1 e2).mono (StaysIn.refl _) (RLe.refl _) (ne this.1) (ne this.2) (fun _ _ => rfl)
        · rcases lookup_cons hy with ⟨rfl, rfl⟩ | ⟨hyx, hy⟩
          · refine ⟨v, ?_, r⟩
            unfold VHolds; rw [kO]
            exact ⟨_, hn, if_pos rfl⟩
          · obtain ⟨w, H, z⟩ := G.locs y mv hy
            refine ⟨w, ?_, z⟩
            unfold VHolds at H ⊢
            split
            · rename_i q; rw [q] at H; obtain ⟨m1, a1, b1⟩ := H
              refine ⟨_, hn, ?_⟩
              rw [if_neg hyx]
              obtain ⟨o, es, ep, ho, hd, hsk, hf⟩ := hm₀
              obtain ⟨o', es', ep', ho', hd', hsk', hf'⟩ := a1
              rw [ho] at ho'; cases ho'
              rw [hd] at hd'; cases hd'
              rw [← hf y, hf' y, b1]
            · rename_i q; rw [q] at H; obtain ⟨a1, e1, b1⟩ := H
              exact ⟨a1, e1, b1.sameBut hsb (C.cellL _ (mem_of_lookup e1))⟩
            · rename_i q; rw [q] at H; obtain ⟨a1, e1, b1⟩ := H
              exact ⟨a1, e1, b1.sameBut hsb (C.cellL _ (mem_of_lookup e1))⟩
            · rename_i q1 q2 q3; split at H <;> first | (exact absurd (by assumption) q1) | (exact absurd (by assumption) q2) | (exact absurd (by assumption) q3) | exact H
        · obtain ⟨w, hw⟩ := (G.cel y hy).1; exact ⟨w, hw.sameBut hsb (C.cellL y hy)⟩
        · obtain ⟨o, ho, z⟩ := (G.kep q hq).1
          exact ⟨o, (ne (C.keptL q hq)).trans ho, z⟩
      · exact ⟨StaysIn.refl _, RLe.refl _, fun a o ea p => ⟨(hsb.2 a (Ne.symm p.l)).trans ea, p⟩⟩
    | cell =>
      have CS := hc rfl
      obtain ⟨a, ha⟩ := C.cellx x e
      have hm := mem_of_lookup ha
      obtain ⟨⟨v₀, hv₀⟩, hga, hra⟩ := G.cel _ hm
      refine wpAny_storeName_cell hk kO ha hv₀ fun h' hc' hsb => h _ ?_ ?_
      · have ne : ∀ {b : Addr}, b ≠ a → h'.get? b = s.heap.get? b := fun hb => hsb.2 _ hb
        have neL : c.env.locals ≠ a := fun q => C.cellL _ hm q.symm
        refine ⟨G.base, fun b o eb => (ne fun q => by subst q; exact nomatch (hga.symm.trans eb)).trans (G.gh b o eb), G.gρ, G.ρd, G.len, fun i p o e1 e2 => ?_, G.os, G.gens, G.gqOf (fun p hp => ne (hra p hp).1), fun y mv hy => ?_, ⟨?_, G.ns.2⟩, fun y hy => ⟨?_, (G.cel y hy).2⟩, fun q hq => ⟨?_, (G.kep q hq).2⟩⟩
        · have := hra p (List.mem_of_getElem? e1)
          exact (G.objs i p o e1 e2).mono (StaysIn.refl _) (RLe.refl _) (ne this.1) (ne this.2) (fun _ _ => rfl)
        · rcases lookup_cons hy with ⟨rfl, rfl⟩ | ⟨hyx, hy⟩
          · refine ⟨v, ?_, r⟩
            unfold VHolds; rw [kO]
            exact ⟨a, ha, hc'⟩
          · obtain ⟨w, H, z⟩ := G.locs y mv hy
            refine ⟨w, ?_, z⟩
            have other : ∀ b, c.env.cells.lookup y = some b → b ≠ a := fun b hb q => hyx (name_of_addr CS.cells (mem_of_lookup hb) (q ▸ hm))
            unfold VHolds at H ⊢
            split
            · rename_i q; rw [q] at H; obtain ⟨m1, a1, b1⟩ := H
              exact ⟨m1, a1.sameBut hsb neL, b1⟩
            · rename_i q; rw [q] at H; obtain ⟨a1, e1, b1⟩ := H
              exact ⟨a1, e1, b1.sameBut hsb (other _ e1)⟩
            · rename_i q; rw [q] at H; obtain ⟨a1, e1, b1⟩ := H
              exact ⟨a1, e1, b1.sameBut hsb (other _ e1)⟩
            · rename_i q1 q2 q3; split at H <;> first | (exact absurd (by assumption) q1) | (exact absurd (by assumption) q2) | (exact absurd (by assumption) q3) | exact H
        · obtain ⟨m1, a1⟩ := G.ns.1; exact ⟨m1, a1.sameBut hsb neL⟩
        · obtain ⟨w, hw⟩ := (G.cel y hy).1
          by_cases q : y.2 = a
          · exact ⟨_, q ▸ hc'⟩
          · exact ⟨w, hw.sameBut hsb q⟩
        · obtain ⟨o, ho, z⟩ := (G.kep q hq).1
          exact ⟨o, (ne (CS.keptC x a kO ha q hq)).trans ho, z⟩
      · exact ⟨StaysIn.refl _, RLe.refl _, fun b o eb p => ⟨(hsb.2 b (Ne.symm (p.cl _ hm))).trans eb, p⟩⟩
    | _ => cases hs
end
end
section
open PySem PySem.W PyProof.Rows
structure FnIs (W : Wd) (a : Addr) (fd : FuncData) : Prop where
  at_ : ∃ o, W.base.get? a = some o ∧ o.data = .func fd
  code : W.base.CodeRec fd.code fd.qualname
  glob : fd.globals = mainGlobals
  clos : fd.closure = []
  blt : fd.builtins = builtinsNs

def BRel (g : Heap) (ρ : Rho) : List (Str × Value) → Loc → Prop
  | [], [] => True
  | (x, v) :: b, (y, m) :: l => x = y ∧ VRel g ρ m v ∧ BRel g ρ b l
  | _, _ => False

inductive KRels (g : Heap) (ρ : Rho) : List (Str × MV) → List (Str × Value) → Prop
  | nil : KRels g ρ [] []
  | cons {k m v ms vs} : VRel g ρ m v → KRels g ρ ms vs → KRels g ρ ((k, m) :: ms) ((k, v) :: vs)

section
variable (W : Wd)
def RPost (c : Cx) (g : Heap) (ρ : Rho) (loc : Loc) (s : Shared) (K : MV → Hp → Prop) (KE : Xc → Hp → Prop) : Result → Shared → Prop := fun r s' => match r with
  | .ok (.ret v) => Post W c g ρ loc s K v s'
  | .ok _ => False
  | .error e => XPost W c g ρ loc s KE e s'

structure Near (c : Cx) (A : Around) : Prop where
  fr : A.frames = some c.stack
  hd : A.handled = none
  dep : A.depth ≤ c.A.depth + 3
  un : A.units ≤ c.A.units + 10

/-- a code of a call, from this frame, a little deeper -/
@[irreducible] def CdP (n : Nat) (f : List Value → List (Str × Value) → Code) (ms : List MV) (kws : List (Str × MV)) (σ : Hp) (K : MV → Hp → Prop) (KE : Xc → Hp → Prop) : Prop :=
  ∀ sc c g ρ loc s vs kvs A, COk W n sc c → Good W c g ρ loc σ s → VRels g ρ ms vs → KRels g ρ kws kvs → Near c A →
    codeAny (Mo W) A (f vs kvs) (RPost W c g ρ loc s K KE) s

/-- the parameters bound -/
@[irreducible] def BdP (n : Nat) (fd : FuncData) (ms : List MV) (kws : List (Str × MV)) (σ : Hp) (K : Loc → Hp → Prop) : Prop :=
  ∀ sc c g ρ loc s vs kvs A, COk W n sc c → Good W c g ρ loc σ s → VRels g ρ ms vs → KRels g ρ kws kvs → Near c A → ∀ E,
    wpAny (Mo W) A.in1 (bindArgs fd ⟨vs, kvs⟩) (fun binds s' => ∃ l σ' g' ρ', K l σ' ∧ Step c g ρ s g' ρ' s' ∧ Good W c g' ρ' loc σ' s' ∧ BRel g' ρ' binds l) E s
end

theorem isFreed_false {h : Heap} {a : Addr} {o : Obj} (e : h.get? a = some o) : o.isFreed = false := (Heap.get?_some_iff.mp e).2

/-- the storage of a frame, as its callees must keep it -/
def keptOf (h : Heap) (env : Env) (kept : List (Addr × Data)) : List (Addr × Data) :=
  (env.locals, ((h.get? env.locals).map Obj.data).getD .plain) :: (env.cells.map fun x => (x.2, ((h.get? x.2).map Obj.data).getD .plain)) ++ kept

section
variable {W : Wd} {c : Cx} {g g₁ : Heap} {ρ ρ₁ : Rho} {loc : Loc} {σ σ' : Hp} {s s₁ : Shared} {n : Nat} {sc : Scope}

theorem Good.keptOk (G : Good W c g ρ loc σ s) : ∀ q ∈ keptOf s.heap c.env c.kept, (∃ o, s.heap.get? q.1 = some o ∧ o.data = q.2 ∧ ∀ vs, q.2 ≠ .fields vs) ∧ g.get? q.1 = none ∧ ∀ p ∈ ρ, p.1 ≠ q.1 ∧ p.2 ≠ q.1 := by
  intro q hq
  unfold keptOf at hq
  rcases List.mem_append.mp hq with hq | hq
  · rcases List.mem_cons.mp hq with rfl | hq
    · obtain ⟨m, o, es, ep, ho, hd, _⟩ := G.ns.1
      refine ⟨⟨o, ho, by simp [ho], fun vs q => ?_⟩, G.ns.2⟩
      simp [ho, hd] at q
    · obtain ⟨x, hx, rfl⟩ := List.mem_map.mp hq
      obtain ⟨⟨v, o, ho, hd⟩, z⟩ := G.cel x hx
      refine ⟨⟨o, ho, by simp [ho], fun vs q => ?_⟩, z⟩
      simp [ho, hd] at q
  · exact G.kep q hq

theorem lookup_reverse_mem {l : List (Str × Value)} {x : Str} {v : Value} (h : l.reverse.lookup x = some v) : (x, v) ∈ l := by
  have := mem_of_lookup h
  simpa using this

theorem BRel.look {g : Heap} {ρ : Rho} : ∀ {b : List (Str × Value)} {l : Loc}, BRel g ρ b l → (b.map (·.1)).Nodup → ∀ {x mv}, l.lookup x = some mv → ∃ v, (x, v) ∈ b ∧ VRel g ρ mv v
  | [], [], _, _, x, mv, h => by cases h
  | (y, v) :: b, (z, m) :: l, ⟨e, r, hb⟩, hn, x, mv, h => by
    subst e
    rcases lookup_cons h with ⟨rfl, rfl⟩ | ⟨_, h⟩
    · exact ⟨v, .head _, r⟩
    · obtain ⟨w, hm, z⟩ := hb.look (List.nodup_cons.mp hn).2 h
      exact ⟨w, .tail _ hm, z⟩
  | [], _ :: _, h, _, _, _, _ => h.elim
  | (_, _) :: _, [], h, _, _, _, _ => h.elim
theorem BRel.keys {g : Heap} {ρ : Rho} : ∀ {b : List (Str × Value)} {l : Loc}, BRel g ρ b l → b.map (·.1) = l.map (·.1)
  | [], [], _ => rfl
  | (y, v) :: b, (z, m) :: l, ⟨e, _, hb⟩ => by subst e; simp [hb.keys]
  | [], _ :: _, h => h.elim
  | (_, _) :: _, [], h => h.elim

theorem bindL_of {k : Str → Option NameKind} : ∀ {b : List (Str × Value)} {m : Str → Option Value}, (b.map (·.1)).Nodup → ∀ {x v}, (x, v) ∈ b → k x = some .local → bindL k b m x = some v
  | (y, w) :: b, m, hn, x, v, hm, hk => by
    have hn' := List.nodup_cons.mp hn
    have keep : ∀ {b : List (Str × Value)} {m : Str → Option Value} {x : Str}, x ∉ b.map (·.1) → bindL k b m x = m x := by
      intro b
      induction b with
      | nil => intro m x _; rfl
      | cons p b ih =>
        obtain ⟨y, w⟩ := p
        intro m x hx
        rw [List.map_cons, List.mem_cons, not_or] at hx
        unfold bindL
        rw [ih hx.2]
        split
        · exact if_neg hx.1
        · rfl
    rcases List.mem_cons.mp hm with e | hm
    · cases e
      unfold bindL
      rw [keep hn'.1, if_pos hk]; exact if_pos rfl
    · unfold bindL
      exact bindL_of hn'.2 hm hk
theorem bindC_of {k : Str → Option NameKind} : ∀ {b : List (Str × Value)} {m : Str → Option Value}, (b.map (·.1)).Nodup → ∀ {x v}, (x, v) ∈ b → k x ≠ some .local → bindC k b m x = some v
  | (y, w) :: b, m, hn, x, v, hm, hk => by
    have hn' := List.nodup_cons.mp hn
    have keep : ∀ {b : List (Str × Value)} {m : Str → Option Value} {x : Str}, x ∉ b.map (·.1) → bindC k b m x = m x := by
      intro b
      induction b with
      | nil => intro m x _; rfl
      | cons p b ih =>
        obtain ⟨y, w⟩ := p
        intro m x hx
        rw [List.map_cons, List.mem_cons, not_or] at hx
        unfold bindC
        rw [ih hx.2]
        split
        · rfl
        · exact if_neg hx.1
    rcases List.mem_cons.mp hm with e | hm
    · cases e
      unfold bindC
      rw [keep hn'.1, if_neg hk]; exact if_pos rfl
    · unfold bindC
      exact bindC_of hn'.2 hm hk

theorem cellsFrom_some' : ∀ (names : List (Str × NameKind)) (n : Nat) (acc : List (Str × Addr)) (x : Str), names.lookup x = some .cell → ∃ a, (cellsFrom n names acc).lookup x = some a := fun names n acc x h =>
  Option.isSome_iff_exists.mp (cellsFrom_some names n acc (.inl h))
/-- only names of cells get one -/
theorem cellsFrom_kind : ∀ (names : List (Str × NameKind)) (n : Nat) (acc : List (Str × Addr)) (x : Str) (a : Addr), (x, a) ∈ cellsFrom n names acc → (x, a) ∈ acc ∨ (x, NameKind.cell) ∈ names
  | [], n, acc, x, a, h => .inl h
  | (y, k) :: r, n, acc, x, a, h => by
    unfold cellsFrom at h
    split at h
    · rename_i hk
      rcases cellsFrom_kind r _ _ x a h with h | h
      · rcases List.mem_cons.mp h with e | h
        · cases e
          refine .inr ?_
          rw [show k = NameKind.cell from by simpa using hk]; exact .head _
        · exact .inl h
      · exact .inr (.tail _ h)
    · rcases cellsFrom_kind r _ _ x a h with h | h
      · exact .inl h
      · exact .inr (.tail _ h)

/-- what the callee's frame is -/
def calleeCx (c : Cx) (A : Around) (env : Env) (h : Heap) : Cx := { A := A.deeper env, env, stack := env :: c.stack, kept := keptOf h c.env c.kept }

theorem COk.callee (hn50 : n ≤ 50) (C : COk W n sc c) (G : Good W c g ρ loc σ s) {A : Around} (N : Near c A) {fd : FuncData} {a : Addr} (F : FnIs W a fd) (hk : fd.scope.kind = .function) {m cm : Str → Option Value} {s' : Shared}
    (x : InCallC s s.heap.objs.size m (cellsFrom (s.heap.objs.size + 1) fd.scope.names []) cm s') :
    COkS W (n + 1) fd.scope (calleeCx c A (newEnv fd.scope s.heap.objs.size fd.globals (cellsFrom (s.heap.objs.size + 1) fd.scope.names []) (fd.qualname ++ ".<locals>.") (some a) fd.code none fd.builtins) s.heap) := by
  have fr : ∀ q ∈ keptOf s.heap c.env c.kept, q.1 < s.heap.objs.size := fun q hq => by
    obtain ⟨⟨o, ho, _⟩, _⟩ := G.keptOk q hq
    exact Heap.lt_size ho
  refine ⟨?_, ⟨_, rfl⟩, rfl, x.apart, ?_⟩
  rotate_left
  · intro y b hy hb q hq
    have h1 := x.above y b (mem_of_lookup hb)
    have h2 := fr q hq
    exact fun e => Nat.lt_irrefl _ (Nat.lt_trans h2 (e ▸ h1))
  refine ⟨rfl, hk, F.glob, F.blt, fun _ => N.hd, ?_, ?_, ?_, ⟨_, _, rfl, rfl⟩, fun y hy => Nat.ne_of_gt (x.above y.1 y.2 hy), ?_, fun q hq => Nat.ne_of_lt (fr q hq), ?_⟩
  · have := N.dep; have := C.dep; show A.depth + 1 ≤ _; omega
  · have := N.un; have := C.un; show A.units + 3 ≤ _; omega
  · show A.frames.map _ = _; rw [N.fr]; rfl
  · intro e he
    rcases List.mem_cons.mp he with rfl | he
    · exact ⟨by show fd.scope.kind ≠ _; rw [hk]; decide, _, rfl, .inl rfl⟩
    · obtain ⟨hm, L, hL, hq⟩ := C.stk e he
      refine ⟨hm, L, hL, .inr ?_⟩
      rcases hq with rfl | ⟨d, hd⟩
      · exact ⟨_, List.mem_append_left _ (.head _)⟩
      · exact ⟨d, List.mem_append_right _ hd⟩
  · exact fun y hy => cellsFrom_some' _ _ _ _ hy

theorem Good.enter (C : COk W n sc c) (G : Good W c g ρ loc σ s) {A : Around} {fd : FuncData} {a : Addr} {binds : List (Str × Value)} {l : Loc} {s' : Shared}
    (hb : BRel g ρ binds l) (hn : (l.map (·.1)).Nodup) (hnd : ((cellsFrom 0 fd.scope.names []).map (·.1)).Nodup)
    (hkind : ∀ x ∈ binds, fd.scope.names.lookup x.1 = some .local ∨ fd.scope.names.lookup x.1 = some .cell)
    (x : InCallC s s.heap.objs.size (bindL (fun y => fd.scope.names.lookup y) binds fun _ => none) (cellsFrom (s.heap.objs.size + 1) fd.scope.names []) (bindC (fun y => fd.scope.names.lookup y) binds fun _ => none) s') :
    Good W (calleeCx c A (newEnv fd.scope s.heap.objs.size fd.globals (cellsFrom (s.heap.objs.size + 1) fd.scope.names []) (fd.qualname ++ ".<locals>.") (some a) fd.code none fd.builtins) s.heap) g ρ l σ s' := by
  have k := x.toInCall.keep
  obtain ⟨h', tk, rfl⟩ := x.toInCall.same
  have fr : ∀ b, s.heap.objs.size ≤ b → Priv c g ρ b := fun b hb => G.fresh (Heap.get?_none_of_le hb)
  have P := fr _ (Nat.le_refl _)
  have cellP : ∀ y ∈ cellsFrom (s.heap.objs.size + 1) fd.scope.names [], Priv c g ρ y.2 := fun y hy => fr _ (Nat.le_of_lt (x.above y.1 y.2 hy))
  refine ⟨G.base, fun b o e => k b o (G.gh b o e), G.gρ, G.ρd, G.len, fun i p o e1 e2 => ?_, G.os, G.gens, G.gqOf (fun p hp => by obtain ⟨o1, q1⟩ := (G.rho hp).1; exact (k _ _ q1).trans q1.symm), fun y mv hy => ?_, ⟨⟨_, x.toInCall.ns⟩, P.g, fun p hp => P.r p hp⟩, fun y hy => ?_, fun q hq => ?_⟩
  · have z := G.objs i p o e1 e2
    obtain ⟨⟨o1, q1⟩, ⟨o2, q2⟩⟩ := z.there
    exact z.mono (StaysIn.refl _) (RLe.refl _) ((k _ _ q1).trans q1.symm) ((k _ _ q2).trans q2.symm) (fun _ _ => rfl)
  · obtain ⟨v, hm, r⟩ := hb.look (by rw [hb.keys]; exact hn) hy
    have hnb : (binds.map (·.1)).Nodup := by rw [hb.keys]; exact hn
    refine ⟨v, ?_, r⟩
    unfold VHolds
    show match fd.scope.names.lookup y with | some .local => _ | some .cell => _ | some .free => _ | _ => _
    rcases hkind _ hm with q | q
    · dsimp only at q
      rw [q]
      exact ⟨_, x.toInCall.ns, bindL_of hnb hm q⟩
    · dsimp only at q
      rw [q]
      obtain ⟨b, hb'⟩ := cellsFrom_some' fd.scope.names (s.heap.objs.size + 1) [] y q
      refine ⟨b, hb', ?_⟩
      have := x.cell y b hb'
      rw [bindC_of hnb hm (by rw [q]; decide)] at this
      exact this
  · refine ⟨?_, (cellP y hy).g, fun p hp => (cellP y hy).r p hp⟩
    exact ⟨_, x.cell y.1 y.2 (lookup_of_mem_nodup (cellsFrom_names fd.scope.names 0 (s.heap.objs.size + 1) [] [] rfl ▸ hnd) hy)⟩
  · obtain ⟨⟨o, ho, r⟩, z⟩ := G.keptOk q hq
    exact ⟨⟨o, k _ o ho, r⟩, z⟩

theorem COk.env_ne (C : COk W n sc c) : True := trivial

/-- back in the caller: what the callee kept is what the caller holds -/
theorem Good.leave {c' : Cx} {l : Loc} {s' : Shared} (G : Good W c g ρ loc σ s) (hkept : c'.kept = keptOf s.heap c.env c.kept) (st : Step c' g ρ s₁ g₁ ρ₁ s') (G' : Good W c' g₁ ρ₁ l σ' s') :
    Good W c g₁ ρ₁ loc σ' s' := by
  have kl : (c.env.locals, ((s.heap.get? c.env.locals).map Obj.data).getD .plain) ∈ c'.kept := by rw [hkept]; exact List.mem_append_left _ (.head _)
  have kc : ∀ x ∈ c.env.cells, (x.2, ((s.heap.get? x.2).map Obj.data).getD .plain) ∈ c'.kept := fun x hx => by
    rw [hkept]; exact List.mem_append_left _ (.tail _ (List.mem_map.mpr ⟨x, hx, rfl⟩))
  have kk : ∀ q ∈ c.kept, q ∈ c'.kept := fun q hq => by rw [hkept]; exact List.mem_append_right _ hq
  have kN : ∀ m, s.heap.Ns c.env.locals m → s'.heap.Ns c.env.locals m := fun m ⟨o, es, ep, ho, hd, r⟩ => by
    obtain ⟨⟨o', ho', hd', _⟩, _⟩ := G'.kep _ kl
    dsimp only at ho' hd'
    rw [ho] at hd'
    exact ⟨o', es, ep, ho', hd'.trans hd, r⟩
  have kC : ∀ y ∈ c.env.cells, ∀ v, s.heap.IsCell y.2 v → s'.heap.IsCell y.2 v := fun y hy v ⟨o, ho, hd⟩ => by
    obtain ⟨⟨o', ho', hd', _⟩, _⟩ := G'.kep _ (kc y hy)
    dsimp only at ho' hd'
    rw [ho] at hd'
    exact ⟨o', ho', hd'.trans hd⟩
  refine ⟨G'.base, G'.gh, G'.gρ, G'.ρd, G'.len, G'.objs, G'.os, G'.gens, G'.gq, fun x mv e => ?_, ⟨?_, (G'.kep _ kl).2⟩, fun x hx => ⟨?_, (G'.kep _ (kc x hx)).2⟩, fun q hq => G'.kep q (kk q hq)⟩
  · obtain ⟨v, H, r⟩ := G.locs x mv e
    exact ⟨v, H.keep kN kC, r.mono st.ge st.re⟩
  · obtain ⟨m, hm⟩ := G.ns.1; exact ⟨m, kN m hm⟩
  · obtain ⟨v, hv⟩ := (G.cel x hx).1; exact ⟨v, kC x hx v hv⟩

theorem Step.leave {A : Around} {fd : FuncData} {a : Addr} {cd : Value} {m cm : Str → Option Value} {s' s₂ : Shared} {qual : Str}
    (G : Good W c g ρ loc σ s)
    (x : InCallC s s.heap.objs.size m (cellsFrom (s.heap.objs.size + 1) fd.scope.names []) cm s')
    (st : Step (calleeCx c A (newEnv fd.scope s.heap.objs.size fd.globals (cellsFrom (s.heap.objs.size + 1) fd.scope.names []) qual (some a) cd none fd.builtins) s.heap) g ρ s' g₁ ρ₁ s₂) :
    Step c g ρ s g₁ ρ₁ s₂ := by
  refine ⟨st.ge, st.re, fun b o e P => ?_⟩
  · have lt := Heap.lt_size e
    have key : ∀ q ∈ keptOf s.heap c.env c.kept, q.1 ≠ b := fun q hq => by
      unfold keptOf at hq
      rcases List.mem_append.mp hq with hq | hq
      · rcases List.mem_cons.mp hq with rfl | hq
        · exact P.l
        · obtain ⟨y, hy, rfl⟩ := List.mem_map.mp hq
          exact P.cl y hy
      · exact P.k q hq
    obtain ⟨e2, P2⟩ := st.ke b o (x.toInCall.keep b o e) ⟨P.g, P.r, Nat.ne_of_gt lt, fun y hy => Nat.ne_of_gt (Nat.lt_trans lt (x.above y.1 y.2 hy)), key⟩
    exact ⟨e2, P2.g, P2.r, P.l, P.cl, P.k⟩

theorem frames_mem {l : List Env} {b : Addr} (h : b ∈ l.filterMap (·.frame)) : ∃ e ∈ l, e.frame = some b := by
  obtain ⟨e, he, q⟩ := List.mem_filterMap.mp h
  exact ⟨e, he, q⟩

theorem funFrames_of {h base : Heap} : ∀ {l : List Env}, (∀ e ∈ l, e.scope.kind ≠ .module ∧ ∃ L o, e.frame = some L ∧ base.get? L = none ∧ h.get? L = some o ∧ ∀ vs, o.data ≠ .fields vs) → h.FunFrames base l
  | [], _ => trivial
  | e :: r, H => by
    obtain ⟨a, b⟩ := H e (.head _)
    exact ⟨a, b, funFrames_of fun e he => H e (.tail _ he)⟩

/-- the frames of the stack, in the heap that the exception left -/
theorem Good.frames (C : COk W n sc c) {h₀ h : Heap} (G : Good W c g ρ loc σ { s with heap := h₀ }) (sl : ∀ b o, h₀.get? b = some o → ∃ sl, h.get? b = some { o with slots := sl }) :
    ∀ e ∈ c.stack, e.scope.kind ≠ .module ∧ ∃ L o, e.frame = some L ∧ (∃ o₀, h₀.get? L = some o₀ ∧ ∀ vs, o₀.data ≠ .fields vs) ∧ h.get? L = some o ∧ ∀ vs, o.data ≠ .fields vs := by
  intro e he
  obtain ⟨hm, L, hL, hq⟩ := C.stk e he
  refine ⟨hm, ?_⟩
  have key : ∃ o₀, h₀.get? L = some o₀ ∧ ∀ vs, o₀.data ≠ .fields vs := by
    rcases hq with rfl | ⟨d, hd⟩
    · obtain ⟨m, o, es, ep, ho, hd, _⟩ := G.ns.1
      exact ⟨o, ho, fun vs q => by rw [hd] at q; cases q⟩
    · obtain ⟨⟨o, ho, hd', hf⟩, _⟩ := G.kep _ hd
      exact ⟨o, ho, fun vs q => hf vs (hd' ▸ q)⟩
  obtain ⟨o₀, e0, hf⟩ := key
  obtain ⟨sl', e1⟩ := sl L o₀ e0
  exact ⟨L, _, hL, ⟨o₀, e0, hf⟩, e1, hf⟩

theorem leaving_ok (C : COk W n sc c) {h₀ : Heap} {x : Value} {xc : Xc} (hfr : c.env.frame = some c.env.locals) {outer : List Env} (hst : c.stack = c.env :: outer)
    (G : Good W c g ρ loc σ { s with heap := h₀ }) (X : XFly c h₀ s.heap x xc) {Q : Unit → Shared → Prop} {E : Value → Shared → Prop}
    (h : ∀ h', (∀ c₂ : Cx, c₂.stack = outer → XFly c₂ (hideAll h₀ [c.env.locals]) h' x xc) → Q () { s with heap := h' }) : wpAny (Mo W) c.A (leaving c.env x) Q E s := by
  obtain ⟨e, rfl, he0, oe, vs, he, hcls, hd, hst'⟩ := X.ex
  have FR := Good.frames C G X.slots
  let fs := c.stack.filterMap (·.frame)
  let base := hideAll h₀ fs
  have hkb : base.StaysIn s.heap := fun b o q => by
    have h1 := of_hideAll fs q
    exact X.keep b o h1 fun hm => by rw [hideAll_none fs hm] at q; cases q
  have hen : base.get? e = none := by
    cases q : base.get? e with
    | none => rfl
    | some o => rw [of_hideAll fs q] at he0; cases he0
  have hl : s.heap.FunFrames base c.stack := funFrames_of fun e' he' => by
    obtain ⟨a, L, o, b, _, d, f⟩ := FR e' he'
    exact ⟨a, L, o, b, hideAll_none fs (List.mem_filterMap.mpr ⟨e', he', b⟩), d, f⟩
  rw [hst] at hl
  -- what comes of it
  have fin : ∀ h', base.StaysIn h' → h'.Traced base e xc.cls → (∀ b o, s.heap.get? b = some o → (∀ vs, o.data ≠ .fields vs) → ∃ sl, h'.get? b = some { o with slots := sl }) →
      ∀ c₂ : Cx, c₂.stack = outer → XFly c₂ (hideAll h₀ [c.env.locals]) h' (.ref e) xc := by
    intro h' k1 ⟨oe', vs', T, oT, ts, t1, t2, t3, t4, t5, t6, t7, t8, t9⟩ k4 c₂ hc₂
    have inF : ∀ b, b ∈ fs → ∃ o₀ o, h₀.get? b = some o₀ ∧ (∀ vs, o₀.data ≠ .fields vs) ∧ (∃ sl, h'.get? b = some { o₀ with slots := sl }) := fun b hb => by
      obtain ⟨e', he', hf⟩ := frames_mem hb
      obtain ⟨_, L, o, f1, ⟨o₀, f2, f3⟩, f4, f5⟩ := FR e' he'
      rw [hf] at f1; cases f1
      obtain ⟨sl, q⟩ := X.slots b o₀ f2
      obtain ⟨sl2, q2⟩ := k4 b _ q f3
      exact ⟨o₀, o₀, f2, f3, sl2, q2⟩
    refine ⟨⟨e, rfl, ?_, oe', vs', t1, t2, t3, .inr ⟨T, oT, ts, t4, ?_, t6, t7, t8, .inl t9⟩⟩, fun b o q hb => ?_, fun b o q => ?_⟩
    · cases q : (hideAll h₀ [c.env.locals]).get? e with
      | none => rfl
      | some o => rw [of_hideAll _ q] at he0; cases he0
    · cases q : (hideAll h₀ [c.env.locals]).get? T with
      | none => rfl
      | some o =>
        have q0 := of_hideAll _ q
        by_cases hT : T ∈ fs
        · obtain ⟨o₀, _, f2, f3, sl, f4⟩ := inF T hT
          rw [f4] at t7; cases t7
          exact (f3 ts t8).elim
        · have := hideAll_get (l := fs) q0 hT
          exact nomatch (t5.symm.trans this)
    · have q0 := of_hideAll _ q
      refine k1 b o (hideAll_get fs q0 fun hm => ?_)
      obtain ⟨e', he', hf⟩ := frames_mem hm
      rw [hst] at he'
      rcases List.mem_cons.mp he' with rfl | he'
      · rw [hfr] at hf; cases hf
        rw [hideAll_none [c.env.locals] (.head _)] at q; cases q
      · exact hb (by rw [hc₂]; exact List.mem_filterMap.mpr ⟨e', he', hf⟩)
    · have q0 := of_hideAll _ q
      by_cases hm : b ∈ fs
      · obtain ⟨o₀, _, f2, f3, sl, f4⟩ := inF b hm
        rw [q0] at f2; cases f2
        exact ⟨sl, f4⟩
      · exact ⟨o.slots, k1 b o (hideAll_get fs q0 hm)⟩
  rcases hst' with h1 | ⟨T, oT, ts, h1, hT0, hTe, hT, hdT, h3⟩
  · refine wpAny_leaving_first (by rw [C.fr, hst]) hl hfr he hkb hen hd h1 fun h' L => h h' (fin h' L.1 (by rw [← hcls]; exact L.2.2.1) L.2.2.2)
  · have hbT : base.get? T = none := by
      cases q : base.get? T with
      | none => rfl
      | some o => exact nomatch (hT0.symm.trans (of_hideAll fs q))
    rcases h3 with h3 | ⟨L, hL, h3⟩
    · exact wpAny_leaving_next (by rw [C.fr, hst]) hl hfr ⟨oe, vs, T, oT, ts, he, hcls, hd, h1, hbT, hTe, hT, hdT, h3⟩ hkb hen fun h' L => h h' (fin h' L.1 L.2.2.1 L.2.2.2)
    · -- in flight in this very frame
      unfold leaving
      refine wpAny_bind (wpAny_noteFrame_inFlight hL he hd h1 hT hdT h3 ?_)
      have hsz : 3 < ts.size := (Array.getElem?_eq_some_iff.mp h3).1
      refine wpAny_setFlight_none he hd h1 hT hdT hsz (h _ (fin _ ?_ ?_ ?_))
      · intro b o q
        rw [Heap.get?_update_other _ _ (fun z : T = b => by rw [← z, hbT] at q; cases q)]
        exact hkb b o q
      · refine ⟨oe, vs, T, _, _, (Heap.get?_update_other _ _ hTe).trans he, hcls, hd, h1, hbT, hTe, Heap.get?_update_self _ hT (Obj.isFreed_of_fields (Obj.data_mapFields hdT _)), Obj.data_mapFields hdT _, ?_⟩
        simp [hsz]
      · intro b o q hf
        exact ⟨o.slots, (Heap.get?_update_other _ _ (fun z : T = b => by rw [← z, hT] at q; cases q; exact hf ts hdT)).trans q⟩
end
end
section
open PySem PySem.W PyProof.Rows
mutual
def MV.ok (k : Nat) : MV → Bool
  | .obj n => decide (n < k)
  | .tup l => oksL k l
  | .lst l => oksL k l
  | .dct l => oksE k l
  | _ => true
def oksL (k : Nat) : List MV → Bool
  | [] => true
  | m :: l => m.ok k && oksL k l
def oksE (k : Nat) : List (Str × MV) → Bool
  | [] => true
  | (_, m) :: l => m.ok k && oksE k l
end

def MO.ok (k : Nat) : MO → Bool
  | .list l => oksL k l
  | .inst none => true
  | .inst (some l) => decide (l < k)
  | .sem x => x.ok k
  | .dead => true

theorem of_take_get {α : Type} {l : List α} {k n : Nat} {x : α} (h : (l.take k)[n]? = some x) : l[n]? = some x := by
  rw [List.getElem?_take] at h
  split at h
  · exact h
  · cases h
theorem take_get {α : Type} {l : List α} {k n : Nat} (h : n < k) : (l.take k)[n]? = l[n]? := by
  rw [List.getElem?_take, if_pos h]

mutual
theorem VRel.take {g : Heap} {ρ : Rho} {k : Nat} : ∀ {m v}, VRel g ρ m v → m.ok k = true → VRel g (ρ.take k) m v
  | _, _, .junk v, _ => .junk v
  | _, _, .none, _ => .none
  | _, _, .bool b, _ => .bool b
  | _, _, .int i t, _ => .int i t
  | _, _, .str s t, _ => .str s t
  | _, _, .stat v, _ => .stat v
  | _, _, .fz h, _ => .fz h
  | _, _, .obj h, o => .obj ((take_get (of_decide_eq_true (by simpa [MV.ok] using o))).trans h)
  | _, _, .tup h hs, o => .tup h (hs.take (by simpa [MV.ok] using o))
  | _, _, .lst h hs, o => .lst h (hs.take (by simpa [MV.ok] using o))
  | _, _, .dct h hs, o => .dct h (hs.take (by simpa [MV.ok] using o))
theorem VRels.take {g : Heap} {ρ : Rho} {k : Nat} : ∀ {m v}, VRels g ρ m v → oksL k m = true → VRels g (ρ.take k) m v
  | _, _, .nil, _ => .nil
  | _, _, .cons h hs, o => by
    rw [oksL, Bool.and_eq_true] at o
    exact .cons (h.take o.1) (hs.take o.2)
theorem ERels.take {g : Heap} {ρ : Rho} {k : Nat} : ∀ {m v}, ERels g ρ m v → oksE k m = true → ERels g (ρ.take k) m v
  | _, _, .nil, _ => .nil
  | _, _, .cons h hs, o => by
    rw [oksE, Bool.and_eq_true] at o
    exact .cons (h.take o.1) (hs.take o.2)
end
mutual
theorem VRel.okLen {g : Heap} {ρ : Rho} {k : Nat} (hk : ρ.length ≤ k) : ∀ {m v}, VRel g ρ m v → m.ok k = true
  | _, _, .junk v => by simp [MV.ok]
  | _, _, .none => by simp [MV.ok]
  | _, _, .bool b => by simp [MV.ok]
  | _, _, .int i t => by simp [MV.ok]
  | _, _, .str s t => by simp [MV.ok]
  | _, _, .stat v => by simp [MV.ok]
  | _, _, .fz h => by simp [MV.ok]
  | _, _, .obj h => by
    have := (List.getElem?_eq_some_iff.mp h).1
    simp only [MV.ok, decide_eq_true_eq]; omega
  | _, _, .tup h hs => by rw [MV.ok]; exact hs.okLen hk
  | _, _, .lst h hs => by rw [MV.ok]; exact hs.okLen hk
  | _, _, .dct h hs => by rw [MV.ok]; exact hs.okLen hk
theorem VRels.okLen {g : Heap} {ρ : Rho} {k : Nat} (hk : ρ.length ≤ k) : ∀ {m v}, VRels g ρ m v → oksL k m = true
  | _, _, .nil => by simp [oksL]
  | _, _, .cons h hs => by rw [oksL, h.okLen hk, hs.okLen hk]; rfl
theorem ERels.okLen {g : Heap} {ρ : Rho} {k : Nat} (hk : ρ.length ≤ k) : ∀ {m v}, ERels g ρ m v → oksE k m = true
  | _, _, .nil => by simp [oksE]
  | _, _, .cons h hs => by rw [oksE, h.okLen hk, hs.okLen hk]; rfl
end

theorem ORel.take {g : Heap} {ρ : Rho} {h : Heap} {gs : Array GenState} {p : Addr × Addr} {o : MO} {k : Nat} (x : ORel g ρ h gs p o) (q : o.ok k = true) : ORel g (ρ.take k) h gs p o := by
  cases x with
  | list h hs => exact .list h (hs.take q)
  | inst0 h h' => exact .inst0 h h'
  | inst1 h h' e => exact .inst1 h h' ((take_get (of_decide_eq_true q)).trans e)
  | sem h => exact .sem (SemObj.take _ q h)
  | dead h h' => exact .dead h h'

section
variable {W : Wd} {c : Cx} {g g₁ : Heap} {ρ ρ₁ : Rho} {loc : Loc} {σ σ' : Hp} {s s₁ : Shared} {n : Nat} {sc : Scope}
variable {K K' : MV → Hp → Prop} {KE KE' : Xc → Hp → Prop}

theorem Good.take (G : Good W c g ρ loc σ s) {k : Nat} (hl : ∀ x mv, loc.lookup x = some mv → mv.ok k = true) (ho : (σ.take k).all (·.ok k) = true) : Good W c g (ρ.take k) loc (σ.take k) s := by
  have mem : ∀ p, p ∈ ρ.take k → p ∈ ρ := fun p hp => List.mem_of_mem_take hp
  refine ⟨G.base, G.gh, fun p hp => G.gρ p (mem p hp), G.ρd.sublist (List.take_sublist _ _), by simp [G.len], fun i p o e1 e2 => ?_, G.os, G.gens, fun i j p q e1 e2 => G.gq i j p q (of_take_get e1) (of_take_get e2), fun x mv e => ?_, ⟨G.ns.1, G.ns.2.1, fun p hp => G.ns.2.2 p (mem p hp)⟩,
    fun x hx => ⟨(G.cel x hx).1, (G.cel x hx).2.1, fun p hp => (G.cel x hx).2.2 p (mem p hp)⟩, fun q hq => ⟨(G.kep q hq).1, (G.kep q hq).2.1, fun p hp => (G.kep q hq).2.2 p (mem p hp)⟩⟩
  · have h1 : i < k := by
      have := (List.getElem?_eq_some_iff.mp e1).1
      rw [List.length_take] at this; omega
    have e2' := e2
    rw [take_get h1] at e1 e2
    exact (G.objs i p o e1 e2).take (List.all_eq_true.mp ho o (List.mem_of_getElem? e2'))
  · obtain ⟨v, H, r⟩ := G.locs x mv e
    exact ⟨v, H, r.take (hl x mv e)⟩

theorem Step.take (st : Step c g ρ s g₁ ρ₁ s₁) {k : Nat} (hk : ρ.length ≤ k) : Step c g ρ s g₁ (ρ₁.take k) s₁ := by
  refine ⟨st.ge, fun i p e => ?_, fun a o e P => ?_⟩
  · have : i < k := Nat.lt_of_lt_of_le (List.getElem?_eq_some_iff.mp e).1 hk
    rw [take_get this]; exact st.re i p e
  · obtain ⟨e', P'⟩ := st.ke a o e P
    exact ⟨e', P'.g, fun p hp => P'.r p (List.mem_of_mem_take hp), P'.l, P'.cl, P'.k⟩

/-- garbage is forgotten -/
def Cut (k₀ : Nat) (K : MV → Hp → Prop) : MV → Hp → Prop := fun m σ => ∃ k, k₀ ≤ k ∧ m.ok k = true ∧ (σ.take k).all (·.ok k) = true ∧ K m (σ.take k)
def CutX (k₀ : Nat) (K : Xc → Hp → Prop) : Xc → Hp → Prop := fun m σ => ∃ k, k₀ ≤ k ∧ (σ.take k).all (·.ok k) = true ∧ K m (σ.take k)

theorem Good.locOk (G : Good W c g ρ loc σ s) {k : Nat} (hk : ρ.length ≤ k) : ∀ x mv, loc.lookup x = some mv → mv.ok k = true := fun x mv e => by
  obtain ⟨v, _, r⟩ := G.locs x mv e
  exact r.okLen hk

theorem Post.cut (G : Good W c g ρ loc σ s) {v : Value} {s' : Shared} (h : Post W c g ρ loc s (Cut σ.length K) v s') : Post W c g ρ loc s K v s' := by
  obtain ⟨m, σ', g', ρ', ⟨k, hk, hm, ho, hK⟩, st, G', r⟩ := h
  rw [G.len] at hk
  exact ⟨m, σ'.take k, g', ρ'.take k, hK, st.take hk, G'.take (G.locOk hk) ho, r.take hm⟩
theorem XPost.cut (G : Good W c g ρ loc σ s) {v : Value} {s' : Shared} (h : XPost W c g ρ loc s (CutX σ.length KE) v s') : XPost W c g ρ loc s KE v s' := by
  obtain ⟨m, σ', g', ρ', h₀, ⟨k, hk, ho, hK⟩, st, G', r⟩ := h
  rw [G.len] at hk
  exact ⟨m, σ'.take k, g', ρ'.take k, h₀, hK, st.take hk, G'.take (G.locOk hk) ho, r⟩
theorem CdP.cut {f : List Value → List (Str × Value) → Code} {ms : List MV} {kws : List (Str × MV)} (h : CdP W n f ms kws σ (Cut σ.length K) (CutX σ.length KE)) : CdP W n f ms kws σ K KE := by with_unfolding_all exact (fun sc c g ρ loc s vs kvs A C G r kr N => by
  refine codeAny_mono (h sc c g ρ loc s vs kvs A C G r kr N) fun x s' hx => ?_
  cases x with
  | error e => exact XPost.cut G hx
  | ok f => cases f with
    | ret v => exact Post.cut G hx
    | _ => exact hx)

theorem CdP.mono {f : List Value → List (Str × Value) → Code} {ms : List MV} {kws : List (Str × MV)} (h : CdP W n f ms kws σ K KE) (hk : ∀ m σ', K m σ' → K' m σ') (hx : ∀ m σ', KE m σ' → KE' m σ') : CdP W n f ms kws σ K' KE' := by with_unfolding_all exact (fun sc c g ρ loc s vs kvs A C G r kr N => by
  refine codeAny_mono (h sc c g ρ loc s vs kvs A C G r kr N) fun x s' h => ?_
  cases x with
  | error e => obtain ⟨a, b, c', d, e', k, r⟩ := h; exact ⟨a, b, c', d, e', hx _ _ k, r⟩
  | ok f => cases f with
    | ret v => obtain ⟨a, b, c', d, k, r⟩ := h; exact ⟨a, b, c', d, hk _ _ k, r⟩
    | _ => exact h)

/-- what a body comes to -/
def retOf : Fl → MV
  | .ret m => m
  | _ => .none

def headOk (fd : FuncData) (l : Loc) : Bool :=
  !fd.scope.isCoroutine && !fd.scope.isGenerator && (fd.scope.kind == .function) && decide ((l.map (·.1)).Nodup) &&
    (l.all fun x => fd.scope.names.lookup x.1 == some .local || fd.scope.names.lookup x.1 == some .cell) && decide ((cellsFrom 0 fd.scope.names []).map (·.1)).Nodup

theorem BRel.mem {g : Heap} {ρ : Rho} {b : List (Str × Value)} {l : Loc} (h : BRel g ρ b l) {x : Str × Value} (hx : x ∈ b) : ∃ y ∈ l, y.1 = x.1 := by
  have : x.1 ∈ l.map (·.1) := by rw [← h.keys]; exact List.mem_map_of_mem hx
  obtain ⟨y, hy, e⟩ := List.mem_map.mp this
  exact ⟨y, hy, e⟩

theorem Near.self : Near c c.A → Near c c.A := id
theorem COk.near (C : COk W n sc c) (hn : n < 1000) : Near c c.A := ⟨C.fr, C.hd hn, Nat.le_add_right _ _, Nat.le_add_right _ _⟩

theorem fn_call {fd : FuncData} {a : Addr} {ms : List MV} {kws : List (Str × MV)} {body : List Stmt} (F : FnIs W a fd) (hlim : W.base.NoLimit) (hn : n ≤ 50) (hbody : fd.body = .stmts body)
    (hgen : fd.scope.isCoroutine = false ∧ fd.scope.isGenerator = false ∧ fd.scope.kind = .function)
    (hb : BdP W n fd ms kws σ (fun l σ₁ => headOk fd l = true ∧ ExsP W (n + 1) fd.scope body l σ₁ (fun fl l₂ σ₂ => K (retOf fl) σ₂) (fun x l₂ σ₂ => KE x σ₂))) :
    CdP W n (fun vs kvs => .call (.ref a) ⟨vs, kvs⟩) ms kws σ K KE := by with_unfolding_all exact (fun sc c g ρ loc s vs kvs A C G r kr N => by
  obtain ⟨o, ho, hd⟩ := F.at_
  have ho' := G.gh _ _ (G.base _ _ ho)
  have keepB : ∀ b o, W.base.get? b = some o → s.heap.get? b = some o := fun b o e => G.gh _ _ (G.base _ _ e)
  have key : ∀ E, wpAny (Mo W) A.in1 (bindArgs fd ⟨vs, kvs⟩) (fun binds s₁ => ∃ l σ₁ g₁ ρ₁, (headOk fd l = true ∧ ExsP W (n + 1) fd.scope body l σ₁ (fun fl l₂ σ₂ => K (retOf fl) σ₂) (fun x l₂ σ₂ => KE x σ₂)) ∧ Step c g ρ s g₁ ρ₁ s₁ ∧ Good W c g₁ ρ₁ loc σ₁ s₁ ∧ BRel g₁ ρ₁ binds l) E s :=
    hb sc c g ρ loc s vs kvs A C G r kr N
  obtain ⟨hco, hge, hk⟩ := hgen
  refine codeAny_call_function (by have := N.dep; have := C.dep; show A.depth < 1000; omega) ho' hd hco hge hbody (F.code.keeps keepB) (wpAny_mono (key _) (fun binds s₁ q => ?_) fun _ _ x => x)
  obtain ⟨l, σ₁, g₁, ρ₁, ⟨hh, hE⟩, st₁, G₁, hbr⟩ := q
  unfold headOk at hh
  simp only [Bool.and_eq_true, Bool.not_eq_true', decide_eq_true_eq, beq_iff_eq, List.all_eq_true, Bool.or_eq_true] at hh
  obtain ⟨⟨⟨⟨⟨_, _⟩, _⟩, hnd⟩, hkd⟩, hcn⟩ := hh
  have hkind : ∀ x ∈ binds, fd.scope.names.lookup x.1 = some .local ∨ fd.scope.names.lookup x.1 = some .cell := fun x hx => by
    obtain ⟨y, hy, e⟩ := hbr.mem hx
    exact e ▸ hkd y hy
  rw [F.clos]
  refine wpAny_newFunctionEnv_cells hk (fun x hx => (hkind x hx).imp id fun h => ⟨h, Option.isSome_iff_exists.mpr (cellsFrom_some' _ _ _ _ h)⟩) fun env he s₂ x => ?_
  subst he
  have lim : s₂.heap.NoLimit := Heap.NoLimit.keeps (Heap.NoLimit.keeps hlim fun b o e => G₁.gh _ _ (G₁.base _ _ e)) x.toInCall.keep
  refine ⟨lim, codeAny_func ?_⟩
  have C' := COk.callee hn C G₁ N F hk x
  have G' := Good.enter (A := A) (a := a) C G₁ hbr hnd hcn hkind x
  refine wpAny_mono (hE _ g₁ ρ₁ s₂ C' G') (fun f s₃ q => ?_) fun e s₃ q => ?_
  · obtain ⟨fl, l₃, σ₃, g₃, ρ₃, hK, st₃, G₃, fr⟩ := q
    have st := st₁.trans (Step.leave G₁ x st₃)
    have GG := G₁.leave rfl st₃ G₃
    cases fr with
    | ret r => exact ⟨_, σ₃, g₃, ρ₃, hK, st, GG, r⟩
    | next => exact ⟨_, σ₃, g₃, ρ₃, hK, st, GG, .none⟩
    | brk => exact ⟨_, σ₃, g₃, ρ₃, hK, st, GG, .none⟩
    | cont => exact ⟨_, σ₃, g₃, ρ₃, hK, st, GG, .none⟩
  · obtain ⟨xc, l₃, σ₃, g₃, ρ₃, h₀, hK, st₃, G₃, X⟩ := q
    refine leaving_ok (c := calleeCx c A _ s₁.heap) (s := s₃) C'.toCOk (h₀ := h₀) rfl rfl G₃ X fun h' hX => ?_
    have GG := G₁.leave (c' := calleeCx c A _ s₁.heap) rfl st₃ G₃
    have st := st₁.trans (Step.leave G₁ x st₃)
    -- the callee's frame is forgotten
    have fresh : s₁.heap.get? s₁.heap.objs.size = none := Heap.get?_none_of_le (Nat.le_refl _)
    have P₁ : Priv c g₁ ρ₁ s₁.heap.objs.size := G₁.fresh fresh
    have PL : Priv c g₃ ρ₃ s₁.heap.objs.size := ⟨G₃.ns.2.1, G₃.ns.2.2, P₁.l, P₁.cl, P₁.k⟩
    have hh : ∀ b o, h₀.get? b = some o → b ≠ s₁.heap.objs.size → (hideAll h₀ [s₁.heap.objs.size]).get? b = some o := fun b o e ne => hideAll_get _ e fun hm => ne (by simpa using hm)
    refine ⟨xc, σ₃, g₃, ρ₃, hideAll h₀ [s₁.heap.objs.size], hK, ?_, GG.move (fun b o e np => hh b o e fun q => np (q ▸ PL)) rfl rfl, hX c rfl⟩
    refine ⟨st.ge, st.re, fun b o e P => ?_⟩
    obtain ⟨e', P'⟩ := st.ke b o e P
    refine ⟨hh b o e' fun q => ?_, P'⟩
    have h1 := (st₁.ke b o e P).1
    rw [q, fresh] at h1
    exact nomatch h1)
end
end
section
open PySem PySem.W PyProof.Rows
def gTab : List (Str × Value) := [("_missing", .ref 61), ("BadRequestKeyError", .ref 71), ("iter_multi_items", .ref 81), ("MultiDict", .ref 278), ("Headers", .ref 527), ("_newline_re", .ref 536), ("_str_header_value", .ref 543),
  ("_law_at", .ref 550), ("_law_like", .ref 555), ("_law_set", .ref 560), ("_law_refused", .ref 567)]
def bTab : List (Str × Value) := [("isinstance", .builtin "isinstance"), ("dict", .type "dict"), ("list", .type "list"), ("tuple", .type "tuple"), ("set", .type "set"), ("str", .type "str"), ("int", .type "int"), ("len", .builtin "len"), ("iter", .builtin "iter"),
  ("next", .builtin "next"), ("enumerate", .type "enumerate"), ("range", .type "range"), ("sorted", .builtin "sorted"), ("KeyError", .type "KeyError"), ("ValueError", .type "ValueError")]

def hdrMeths : List (Str × Addr) := [("__init__", 295), ("__getitem__", 302), ("_get_key", 309), ("__eq__", 314), ("get", 322), ("getlist", 327), ("items", 342), ("keys", 350), ("values", 357), ("extend", 365), ("_del_key", 379), ("remove", 386),
  ("pop", 394), ("__contains__", 408), ("__iter__", 415), ("__len__", 422), ("add", 429), ("set", 448), ("setlist", 455), ("setdefault", 462), ("__setitem__", 474), ("update", 482), ("to_wsgi_list", 503), ("copy", 510), ("__str__", 517)]

/-- what the heap of the top gives -/
structure Sf (W : Wd) (K : Frag) : Prop where
  inK : K.In W.base
  lim : W.base.NoLimit
  glob : ∃ mg mb, W.base.Ns mainGlobals mg ∧ W.base.Ns builtinsNs mb ∧ (∀ x v, gTab.lookup x = some v → mg x = some v) ∧ ∀ x v, bTab.lookup x = some v → mg x = none ∧ mb x = some v
  keep : ∀ v ∈ ([.ref 527, .ref 81, .ref 543, .ref 550, .ref 555, .ref 560, .ref 567, .ref 71] : List Value), keepIn K v = true
  meth : ∀ x f, (x, f) ∈ hdrMeths → plainGet K hdrCls x = true ∧ findIn K (.ref hdrCls) x = some (some (.ref f)) ∧ isFn K (.ref f) = true ∧ keepIn K (.ref f) = true
  attr : plainGet K hdrCls "_list" = true ∧ hasDictIn K hdrCls = true ∧ findIn K (.ref hdrCls) "_list" = some none

section
variable (W : Wd)
/-- a call of a value that is known -/
@[irreducible] def CallM (n : Nat) (f : Value) (ms : List MV) (kws : List (Str × MV)) (σ : Hp) (K : MV → Hp → Prop) (KE : Xc → Hp → Prop) : Prop :=
  ∀ sc c g ρ loc s vs kvs, COk W n sc c → Good W c g ρ loc σ s → VRels g ρ ms vs → KRels g ρ kws kvs → wpAny (Mo W) c.A (call f vs kvs) (Post W c g ρ loc s K) (XPost W c g ρ loc s KE) s

/-- its keeper lets the call go on -/
@[irreducible] def KeepOk (f : Value) : Prop := ∀ h, W.base.StaysIn h → ∃ k, (k = Keeper.frame ∨ k = Keeper.machine ∨ k = Keeper.boundFrame) ∧ Looks (Mo W) h (keeperOf f) k

/-- the method of that name -/
@[irreducible] def GetM (m : MV) (name : Str) (σ : Hp) (f : Value) : Prop :=
  ∀ n sc c g ρ loc s v pl, COk W n sc c → Good W c g ρ loc σ s → VRel g ρ m v → ∀ (A : Around) E Q, Q (f, [v]) s → wpAny (Mo W) A (getMethod v name pl) Q E s
end

section
variable {W : Wd} {Kf : Frag} {c : Cx} {g g₁ : Heap} {ρ ρ₁ : Rho} {loc : Loc} {σ σ' : Hp} {s s₁ : Shared} {n : Nat} {sc : Scope}
variable {K K' : MV → Hp → Prop} {KE KE' : Xc → Hp → Prop}

theorem Good.baseIn (G : Good W c g ρ loc σ s) : W.base.StaysIn s.heap := StaysIn.trans G.base G.gh

theorem ev_global (F : Sf W Kf) {x : Str} {pos : Pos} {v : Value} (hx : sc.names.lookup x = some .globalImplicit) (hv : gTab.lookup x = some v) (hb : (x == ("__debug__" : Str)) = false) (h : K (.stat v) σ) :
    EvP W n sc (.Name x pos) loc σ K KE := by with_unfolding_all exact (fun c g ρ s C G => by
  obtain ⟨mg, mb, a1, a2, a3, a4⟩ := F.glob
  refine Calls.Name_function_global (by rw [C.scE]; exact C.kind) (by unfold Env.kindOf; rw [C.scE]; exact hx) (Calls.loadGlobal_global (mg := mg) (by rw [C.glob]; exact a1.keeps G.baseIn) (a3 x v hv) (Post.now G (.stat v) h)) hb)
theorem ev_builtin (F : Sf W Kf) {x : Str} {pos : Pos} {v : Value} (hx : sc.names.lookup x = some .globalImplicit) (hv : bTab.lookup x = some v) (hb : (x == ("__debug__" : Str)) = false) (h : K (.stat v) σ) :
    EvP W n sc (.Name x pos) loc σ K KE := by with_unfolding_all exact (fun c g ρ s C G => by
  obtain ⟨mg, mb, a1, a2, a3, a4⟩ := F.glob
  refine Calls.Name_function_global (by rw [C.scE]; exact C.kind) (by unfold Env.kindOf; rw [C.scE]; exact hx) (Calls.loadGlobal_builtin (mg := mg) (mb := mb) (by rw [C.glob]; exact a1.keeps G.baseIn) (a4 x v hv).1 (by rw [C.blt]; exact a2.keeps G.baseIn) (a4 x v hv).2 (Post.now G (.stat v) h)) hb)

theorem keep_builtin (id : String) : KeepOk W (.builtin id) := by with_unfolding_all exact (fun h _ => ⟨.machine, .inr (.inl rfl), Looks.of_pure rfl⟩)
theorem keep_type (id : String) : KeepOk W (.type id) := by with_unfolding_all exact (fun h _ => ⟨.machine, .inr (.inl rfl), Looks.of_pure rfl⟩)
theorem keep_K (F : Sf W Kf) {f : Value} (hk : keepIn Kf f = true) : KeepOk W f := by with_unfolding_all exact (fun h hb => keeps_K hk h (Frag.In.keeps F.inK hb))

theorem evalArgs_all {M : Model} {A : Around} {f : Value} {args : List (Bool × Sem Value)} {Q : Args → Shared → Prop} {E : Value → Shared → Prop} (h : wpAny M A (spliced args) (fun vs s' => Q ⟨vs, []⟩ s') E s) (hp : args.any (·.1) = false) :
    wpAny M A (evalArgs f true args []) Q E s := by
  cases args with
  | nil =>
    unfold evalArgs
    show wpAny M A (spliced [] >>= _) Q E s
    refine wpAny_bind (wpAny_mono h (fun vs s' h' => ?_) fun _ _ x => x)
    refine wpAny_holding ?_
    exact wpAny_bind (wpAny_pure (wpAny_bind (wpAny_pure (wpAny_pure h'))))
  | cons p r =>
    obtain ⟨st, x⟩ := p
    rw [List.any_cons, Bool.or_eq_false_iff] at hp
    have : st = false := hp.1
    subst this
    exact Calls.evalArgs_plain h
/-- the arguments, then the call -/
theorem callWith_ok {f : Value} {first : List Value} {mf : List MV} {es : List Expr} {pos : Pos} (hk : KeepOk W f) (hes : ∀ env pos, (backTo pos (starEach es env)).any (·.1) = false) (C : COk W n sc c) (G : Good W c g ρ loc σ s) (rf : VRels g ρ mf first)
    (h : EvsP W n sc es loc σ (fun ms σ₁ => CallM W n f (mf ++ ms) [] σ₁ K KE) KE) :
    wpAny (Mo W) c.A (callWith pos f first (backTo pos (starEach es c.env)) []) (Post W c g ρ loc s K) (XPost W c g ρ loc s KE) s := by with_unfolding_all
  refine callWith_of (P := fun h => W.base.StaysIn h) (by rw [hes]; rfl) hk ?_
  have key : wpAny (Mo W) c.A (spliced (backTo pos (starEach es c.env))) (fun vs s₁ => W.base.StaysIn s₁.heap ∧ wpAny (Mo W) c.A (call f (first ++ vs) []) (Post W c g ρ loc s K) (XPost W c g ρ loc s KE) s₁) (XPost W c g ρ loc s KE) s := by
    refine wpAny_mono (h c g ρ s pos C G) (fun vs s₁ q => ?_) fun _ _ x => x
    obtain ⟨ms, σ₁, g₁, ρ₁, k₁, st₁, G₁, r₁⟩ := q
    exact ⟨G₁.baseIn, wp_after st₁ (k₁ sc c g₁ ρ₁ loc s₁ _ [] C G₁ ((rf.mono st₁.ge st₁.re).append r₁) .nil)⟩
  exact evalArgs_all key (hes _ _)

theorem ev_call {fn : Expr} {es : List Expr} {pos : Pos} (hes : ∀ env pos, (backTo pos (starEach es env)).any (·.1) = false)
    (hev : ∀ env, eval (.Call fn es [] pos) env = (do callWith pos (← eval fn env) [] (backTo pos (starEach es env)) []))
    (h : EvP W n sc fn loc σ (fun m σ₁ => ∃ f, m = .stat f ∧ KeepOk W f ∧ EvsP W n sc es loc σ₁ (fun ms σ₂ => CallM W n f ms [] σ₂ K KE) KE) KE) : EvP W n sc (.Call fn es [] pos) loc σ K KE := by with_unfolding_all exact (fun c g ρ s C G => by
  rw [hev]
  refine wpAny_bind (wpAny_mono (h c g ρ s C G) (fun v s₁ q => ?_) fun _ _ x => x)
  obtain ⟨m, σ₁, g₁, ρ₁, ⟨f, rfl, hk, hE⟩, st₁, G₁, r₁⟩ := q
  cases r₁
  exact wp_after st₁ (callWith_ok (mf := []) hk hes C G₁ .nil hE))

theorem ev_mcall {o : Expr} {name : Str} {es : List Expr} {apos pos : Pos} (hes : ∀ env pos, (backTo pos (starEach es env)).any (·.1) = false)
    (hev : ∀ env, eval (.Call (.Attribute o name apos) es [] pos) env = (do
      let ov ← eval o env
      standAt apos.atName
      methodCall o name apos pos env ov (es.length + 0) (backTo pos (starEach es env)) []))
    (hlen : es.length < 30) (hpos : (apos.endLine == pos.line) = true)
    (h : EvP W n sc o loc σ (fun m σ₁ => ∃ f, GetM W m name σ₁ f ∧ KeepOk W f ∧ EvsP W n sc es loc σ₁ (fun ms σ₂ => CallM W n f (m :: ms) [] σ₂ K KE) KE) KE) : EvP W n sc (.Call (.Attribute o name apos) es [] pos) loc σ K KE := by with_unfolding_all exact (fun c g ρ s C G => by
  rw [hev]
  refine wpAny_bind (wpAny_mono (h c g ρ s C G) (fun v s₁ q => ?_) fun _ _ x => x)
  obtain ⟨m, σ₁, g₁, ρ₁, ⟨f, hG, hk, hE⟩, st₁, G₁, r₁⟩ := q
  refine wpAny_bind (wpAny_standAt ?_)
  unfold methodCall
  have hform : methodCallForm (es.length + 0) (backTo pos (starEach es c.env)) [] = true := by
    unfold methodCallForm
    have h1 : (backTo pos (starEach es c.env)).all (fun x => !x.1) = true := by
      have := hes c.env pos
      rw [List.any_eq_false] at this
      exact List.all_eq_true.mpr fun x hx => by simpa using this x hx
    rw [h1]
    simp [hlen]
  rw [hform]
  refine wpAny_bind (wpAny_holding ?_)
  unfold calleeOf
  rw [if_pos rfl]
  refine hG n sc c g₁ ρ₁ loc s₁ v _ C G₁ r₁ c.A _ _ ?_
  dsimp only
  refine wpAny_bind ?_
  unfold methodCallPos
  rw [if_pos (by rw [hpos]; rfl)]
  refine wpAny_pure ?_
  exact wp_after st₁ (callWith_ok (mf := [m]) hk hes C G₁ (.one r₁) hE))

theorem ev_attr {o : Expr} {name : Str} {pos : Pos} (hev : ∀ env, eval (.Attribute o name pos) env = (do
      let ov ← eval o env
      standAt pos.atName
      let r ← holding [ov] (getAttr ov name true)
      letTemporaryGo o ov r
      pure r)) (h : EvP W n sc o loc σ (fun m σ₁ => Op1 W n (fun v => getAttr v name true) m σ₁ K KE) KE) : EvP W n sc (.Attribute o name pos) loc σ K KE := by with_unfolding_all exact (fun c g ρ s C G => by
  refine Attribute_any_ (wpAny_mono (h c g ρ s C G) (fun v s₁ q => ?_) fun _ _ x => x) (hev _)
  obtain ⟨m, σ₁, g₁, ρ₁, k₁, st₁, G₁, r₁⟩ := q
  exact wp_after st₁ (k₁ sc c g₁ ρ₁ loc s₁ v C G₁ r₁))

/-! a Headers object -/
theorem inst_at {k : Nat} {m : MO} {v : Value} (G : Good W c g ρ loc σ s) (hm : σ[k]? = some m) (hi : ∃ l, m = .inst l) (r : VRel g ρ (.obj k) v) :
    ∃ a d od, v = .ref a ∧ InstAt s.heap a (instObj hdrCls d) hdrCls (some od) ∧ (∃ es n, od = dictOf es n) ∧
      (m = .inst none → od = dictOf [] 0) ∧ ∀ l, m = .inst (some l) → ∃ p hs t n, od = dictOf [⟨hs, .str (Str.ofString "_list") t, .ref p.1⟩] n ∧ ρ[l]? = some p := by
  cases r with
  | obj hp =>
    rename_i p
    have z := G.objs k p m hp hm
    obtain ⟨l, rfl⟩ := hi
    cases z with
    | inst0 h1 h2 => exact ⟨_, _, _, rfl, ⟨h1, rfl, rfl, h2⟩, ⟨_, _, rfl⟩, fun _ => rfl, fun l e => by cases e⟩
    | inst1 h1 h2 h3 => exact ⟨_, _, _, rfl, ⟨h1, rfl, rfl, h2⟩, ⟨_, _, rfl⟩, fun e => (by cases e), fun l e => by cases e; exact ⟨_, _, _, _, rfl, h3⟩⟩

theorem getM_inst (F : Sf W Kf) {k : Nat} {l : Nat} {x : Str} {f : Addr} (hm : σ[k]? = some (.inst (some l))) (hx : (x, f) ∈ hdrMeths) (hne : Value.isStr (.str (Str.ofString "_list") 0) x = false) : GetM W (.obj k) x σ (.ref f) := by with_unfolding_all exact (fun n sc c g ρ loc s v pl C G r A E Q h => by
  obtain ⟨a, d, od, rfl, I, _, _, q⟩ := inst_at G hm ⟨_, rfl⟩ r
  obtain ⟨p, hs, t, n', rfl, _⟩ := q l rfl
  obtain ⟨h1, h2, h3, h4⟩ := F.meth x f hx
  refine method_fn (K := Kf) (Frag.In.keeps F.inK G.baseIn) I (plainGet_of h1).1 (plainGet_of h1).2 h2 (beq_iff_eq.mp h3) ?_ h
  show (lookIn x (dictOf _ n')).map _ = some false
  rw [lookIn_dict]
  unfold getL
  have hne' : Value.isStr (.str (Str.ofString "_list") t) x = false := hne
  simp [hne', DictEntry.refKey])

theorem getM_str {x : Str} (name id : String) (hm : ∀ {M : Model} {A : Around} {E : Value → Shared → Prop} {s : Shared} {t : Tok} {pl : Sem Bool} {Q : Value × List Value → Shared → Prop}, Q (.builtin id, [.str x t]) s → wpAny M A (getMethod (.str x t) (Str.ofString name) pl) Q E s) :
    GetM W (.str x) (Str.ofString name) σ (.builtin id) := by with_unfolding_all exact (fun n sc c g ρ loc s v pl C G r A E Q h => by
  cases r; exact hm h)

theorem op_list_attr (F : Sf W Kf) {k l : Nat} (hm : σ[k]? = some (.inst (some l))) (h : K (.obj l) σ) : Op1 W n (fun v => getAttr v (Str.ofString "_list") true) (.obj k) σ K KE := by with_unfolding_all exact (fun sc c g ρ loc s v C G r => by
  obtain ⟨a, d, od, rfl, I, _, _, q⟩ := inst_at G hm ⟨_, rfl⟩ r
  obtain ⟨p, hs, t, n', rfl, hp⟩ := q l rfl
  obtain ⟨h1, h2, h3⟩ := F.attr
  refine get_value (K := Kf) (Frag.In.keeps F.inK G.baseIn) I (plainGet_of h1).1 (findObj_own h2 h3 rfl (v := .ref p.1) ?_) rfl (Post.nowT G (.obj hp) h)
  rw [lookIn_dict]
  unfold getL
  simp [Value.isStr])
end
end
section
open PySem PySem.W PyProof.Rows
def asList (σ : Hp) : MV → Option (List MV)
  | .lst l => some l
  | .obj k => match σ[k]? with
    | some (.list l) => some l
    | _ => none
  | _ => none

section
variable {W : Wd} {Kf : Frag} {c : Cx} {g g₁ : Heap} {ρ ρ₁ : Rho} {loc : Loc} {σ σ' : Hp} {s s₁ : Shared} {n : Nat} {sc : Scope}
variable {K K' : MV → Hp → Prop} {KE KE' : Xc → Hp → Prop}

theorem list_at (G : Good W c g ρ loc σ s) {m : MV} {v : Value} {l : List MV} (hm : asList σ m = some l) (r : VRel g ρ m v) :
    ∃ a vs n, v = .ref a ∧ s.heap.get? a = some (lstObj vs n) ∧ VRels g ρ l vs := by
  cases r with
  | lst h hs => cases hm; exact ⟨_, _, _, rfl, G.gh _ _ h, hs⟩
  | obj hp =>
    unfold asList at hm
    dsimp only at hm
    split at hm
    · rename_i l' e
      cases hm
      have z := G.objs _ _ _ hp e
      cases z with
      | list h hs => exact ⟨_, _, _, rfl, h, hs⟩
    · cases hm
  | _ => cases hm

/-- one handle's object turned -/
theorem Good.updM (G : Good W c g ρ loc σ s) {i : Nat} {p : Addr × Addr} {o o' : MO} {a : Addr} {h' : Heap} {t : Nat} (hi : ρ[i]? = some p) (ho : σ[i]? = some o) (hs : Heap.SameBut a s.heap h') (ha : a = p.1 ∨ a = p.2) (r : ORel g ρ h' s.gens p o') (hng : ∀ x, ¬ h'.IsGen p.1 x) :
    Good W c g ρ loc (σ.set i o') { s with heap := h', toks := t } ∧ Step c g ρ s g ρ { s with heap := h', toks := t } := by
  have hp := List.mem_of_getElem? hi
  have ne : ∀ {b : Addr}, b ≠ a → h'.get? b = s.heap.get? b := fun hb => hs.2 _ hb
  have off : ∀ {b : Addr}, p.1 ≠ b → p.2 ≠ b → h'.get? b = s.heap.get? b := fun h1 h2 => ne (fun q => by rcases ha with rfl | rfl; exact h1 q.symm; exact h2 q.symm)
  have hil : i < σ.length := (List.getElem?_eq_some_iff.mp ho).1
  refine ⟨⟨G.base, fun b ob e => (off (fun q => by rw [← q, (G.gρ p hp).1] at e; cases e) (fun q => by rw [← q, (G.gρ p hp).2] at e; cases e)).trans (G.gh b ob e), G.gρ, G.ρd, by simp [G.len], fun j q oq e1 e2 => ?_, G.os, G.gens, fun j k q q' e1 e2 x y h1 h2 => ?_, fun x mv e => ?_, ⟨?_, G.ns.2⟩, fun x hx => ⟨?_, (G.cel x hx).2⟩, fun k hk => ⟨?_, (G.kep k hk).2⟩⟩,
    ⟨StaysIn.refl _, RLe.refl _, fun b ob e P => ⟨(off (P.r p hp).1 (P.r p hp).2).trans e, P⟩⟩⟩
  · by_cases hij : j = i
    · subst hij
      rw [hi] at e1; cases e1
      rw [List.getElem?_set_self hil] at e2; cases e2
      exact r
    · rw [List.getElem?_set_ne (Ne.symm hij)] at e2
      have pw := List.pairwise_iff_getElem.mp G.ρd
      obtain ⟨hj1, hj2⟩ := List.getElem?_eq_some_iff.mp e1
      obtain ⟨hi1, hi2⟩ := List.getElem?_eq_some_iff.mp hi
      have d : p.1 ≠ q.1 ∧ p.1 ≠ q.2 ∧ p.2 ≠ q.1 ∧ p.2 ≠ q.2 := by
        rcases Nat.lt_or_gt_of_ne hij with h | h
        · have := pw j i hj1 hi1 h
          rw [hj2, hi2] at this
          exact ⟨Ne.symm this.1, Ne.symm this.2.2.1, Ne.symm this.2.1, Ne.symm this.2.2.2⟩
        · have := pw i j hi1 hj1 h
          rw [hj2, hi2] at this
          exact this
      exact (G.objs j q oq e1 e2).mono (StaysIn.refl _) (RLe.refl _) (off d.1 d.2.2.1) (off d.2.1 d.2.2.2) (fun _ _ => rfl)
  · have key : ∀ (j : Nat) (q : Addr × Addr), ρ[j]? = some q → ∀ x, h'.IsGen q.1 x → s.heap.IsGen q.1 x := by
      intro j q e1 x h1
      by_cases hij : j = i
      · subst hij
        rw [hi] at e1; cases e1
        exact (hng x h1).elim
      · have pw := List.pairwise_iff_getElem.mp G.ρd
        obtain ⟨hj1, hj2⟩ := List.getElem?_eq_some_iff.mp e1
        obtain ⟨hi1, hi2⟩ := List.getElem?_eq_some_iff.mp hi
        refine IsGen.of_eq (off ?_ ?_) h1
        · rcases Nat.lt_or_gt_of_ne hij with h | h
          · have := pw j i hj1 hi1 h
            rw [hj2, hi2] at this; exact Ne.symm this.1
          · have := pw i j hi1 hj1 h
            rw [hj2, hi2] at this; exact this.1
        · rcases Nat.lt_or_gt_of_ne hij with h | h
          · have := pw j i hj1 hi1 h
            rw [hj2, hi2] at this; exact Ne.symm this.2.1
          · have := pw i j hi1 hj1 h
            rw [hj2, hi2] at this; exact this.2.2.1
    exact G.gq j k q q' e1 e2 x y (key j q e1 x h1) (key k q' e2 y h2)
  · obtain ⟨v, H, z⟩ := G.locs x mv e
    refine ⟨v, H.keep (fun m ⟨o1, es, ep, h1, h2⟩ => ⟨o1, es, ep, (off (G.ns.2.2 p hp).1 (G.ns.2.2 p hp).2).trans h1, h2⟩) (fun y hy v ⟨o1, h1, h2⟩ => ⟨o1, (off ((G.cel y hy).2.2 p hp).1 ((G.cel y hy).2.2 p hp).2).trans h1, h2⟩), z⟩
  · obtain ⟨m, o1, es, ep, h1, h2⟩ := G.ns.1
    exact ⟨m, o1, es, ep, (off (G.ns.2.2 p hp).1 (G.ns.2.2 p hp).2).trans h1, h2⟩
  · obtain ⟨v, o1, h1, h2⟩ := (G.cel x hx).1
    exact ⟨v, o1, (off ((G.cel x hx).2.2 p hp).1 ((G.cel x hx).2.2 p hp).2).trans h1, h2⟩
  · obtain ⟨o1, h1, h2⟩ := (G.kep k hk).1
    exact ⟨o1, (off ((G.kep k hk).2.2 p hp).1 ((G.kep k hk).2.2 p hp).2).trans h1, h2⟩

theorem Post.new (G : Good W c g ρ loc σ s) {o : Obj} (ho : o.isFreed = false) {t : Nat} {m : MV} (r : ∀ g', g.StaysIn g' → g'.get? s.heap.objs.size = some o → VRel g' ρ m (.ref s.heap.objs.size)) (h : K m σ) :
    Post W c g ρ loc s K (.ref s.heap.objs.size) { s with heap := s.heap.push o, toks := t } := by
  obtain ⟨G', st, e⟩ := G.alloc ho (t := t)
  exact ⟨m, σ, _, ρ, h, st, G', r _ st.ge e⟩

theorem cps_beq (x y : Str) : (x.cps.toList == y.cps.toList) = (x == y) := by
  rw [Bool.eq_iff_iff, beq_iff_eq, beq_iff_eq]
  constructor
  · intro h; cases x; cases y; simp only [Str.mk.injEq]; exact Array.toList_inj.mp h
  · rintro rfl; rfl

/-! comparisons of plain values -/
theorem op_eq_str {a b : Str} (h : K (.bool (a == b)) σ) : Op2 W n (compareOp .Eq) (.str a) (.str b) σ K KE := by with_unfolding_all exact (fun sc c g ρ loc s v₁ v₂ C G r₁ r₂ => by
  cases r₁; cases r₂; exact P.eq_str (by rw [cps_beq]; exact Post.now G (.bool _) h))
theorem op_ne_str {a b : Str} (h : K (.bool (!(a == b))) σ) : Op2 W n (compareOp .NotEq) (.str a) (.str b) σ K KE := by with_unfolding_all exact (fun sc c g ρ loc s v₁ v₂ C G r₁ r₂ => by
  cases r₁; cases r₂
  refine P.ne_str ?_
  rw [show (a.cps.toList != b.cps.toList) = !(a.cps.toList == b.cps.toList) from rfl, cps_beq]; exact Post.now G (.bool _) h)
theorem op_eq_int {a b : Int} (h : K (.bool (a == b)) σ) : Op2 W n (compareOp .Eq) (.int a) (.int b) σ K KE := by with_unfolding_all exact (fun sc c g ρ loc s v₁ v₂ C G r₁ r₂ => by
  cases r₁; cases r₂; exact eq_int (Post.now G (.bool _) h))
theorem op_ne_int {a b : Int} (h : K (.bool (a != b)) σ) : Op2 W n (compareOp .NotEq) (.int a) (.int b) σ K KE := by with_unfolding_all exact (fun sc c g ρ loc s v₁ v₂ C G r₁ r₂ => by
  cases r₁; cases r₂; exact ne_int (Post.now G (.bool _) h))
theorem op_lt_int {a b : Int} (h : K (.bool (decide (a < b))) σ) : Op2 W n (compareOp .Lt) (.int a) (.int b) σ K KE := by with_unfolding_all exact (fun sc c g ρ loc s v₁ v₂ C G r₁ r₂ => by
  cases r₁; cases r₂; exact lt_int (Post.now G (.bool _) h))
theorem op_gt_int {a b : Int} (h : K (.bool (decide (b < a))) σ) : Op2 W n (compareOp .Gt) (.int a) (.int b) σ K KE := by with_unfolding_all exact (fun sc c g ρ loc s v₁ v₂ C G r₁ r₂ => by
  cases r₁; cases r₂; exact gt_int (Post.now G (.bool _) h))
/-! reckoning -/
theorem op_add_int {a b : Int} (h : K (.int (a + b)) σ) : Op2 W n (binaryOp .Add) (.int a) (.int b) σ K KE := by with_unfolding_all exact (fun sc c g ρ loc s v₁ v₂ C G r₁ r₂ => by
  cases r₁; cases r₂; exact add_int (Post.nowT G (.int _ _) h))
theorem op_sub_int {a b : Int} (h : K (.int (a - b)) σ) : Op2 W n (binaryOp .Sub) (.int a) (.int b) σ K KE := by with_unfolding_all exact (fun sc c g ρ loc s v₁ v₂ C G r₁ r₂ => by
  cases r₁; cases r₂; exact sub_int (Post.nowT G (.int _ _) h))
theorem op_mod_int {a b : Int} (hb : b ≠ 0) (h : K (.int (a.fmod b)) σ) : Op2 W n (binaryOp .Mod) (.int a) (.int b) σ K KE := by with_unfolding_all exact (fun sc c g ρ loc s v₁ v₂ C G r₁ r₂ => by
  cases r₁; cases r₂; exact mod_int hb (Post.nowT G (.int _ _) h))
theorem op_fdiv_int {a b : Int} (hb : b ≠ 0) (hs : b.natAbs < 1000000) (h : K (.int (a.fdiv b)) σ) : Op2 W n (binaryOp .FloorDiv) (.int a) (.int b) σ K KE := by with_unfolding_all exact (fun sc c g ρ loc s v₁ v₂ C G r₁ r₂ => by
  cases r₁; cases r₂
  exact floordiv_int hb (Post.nowT G (.int _ _) h) (Or.inl (PyProof.noPylong_small (by omega))))
theorem op_mul_int {a b : Int} (hm : IntMulOk a b) (h : K (.int (a * b)) σ) : Op2 W n (binaryOp .Mult) (.int a) (.int b) σ K KE := by with_unfolding_all exact (fun sc c g ρ loc s v₁ v₂ C G r₁ r₂ => by
  cases r₁; cases r₂; exact mul_int (Post.nowT G (.int _ _) h) hm)
theorem str_append_nil {a b : Str} (h0 : (b.length == 0) = true) : a ++ b = a := by
  have h1 : b.cps = #[] := Array.eq_empty_of_size_eq_zero (by simpa [Str.length] using h0)
  refine Str.ext' ?_
  rw [Str.cps_append, h1, Array.append_empty]
theorem str_nil_append {a b : Str} (h0 : (a.length == 0) = true) : a ++ b = b := by
  have h1 : a.cps = #[] := Array.eq_empty_of_size_eq_zero (by simpa [Str.length] using h0)
  refine Str.ext' ?_
  rw [Str.cps_append, h1, Array.empty_append]
theorem fits_small {k : Nat} (h : k ≤ 200000) : k ≤ sizeLine := by rw [sizeLine_eq]; omega
theorem op_add_str {a b : Str} (hz : a.length + b.length ≤ 200000) (h : K (.str (a ++ b)) σ) : Op2 W n (binaryOp .Add) (.str a) (.str b) σ K KE := by with_unfolding_all exact (fun sc c g ρ loc s v₁ v₂ C G r₁ r₂ => by
  cases r₁ with | str _ t => cases r₂ with | str _ u =>
  refine P.add_str ?_
  by_cases h0 : (a.length == 0) = true
  · rw [if_pos h0]
    exact Post.now G (.str b u) (by rw [str_nil_append h0] at h; exact h)
  · rw [if_neg h0]
    by_cases h1 : (b.length == 0) = true
    · rw [if_pos h1]
      exact Post.now G (.str a t) (by rw [str_append_nil h1] at h; exact h)
    · rw [if_neg h1]
      have hl : (a ++ b).length ≤ sizeLine := fits_small (by rw [Str.length_append]; exact hz)
      exact And.intro hl (Post.nowT G (.str _ _) h))

/-! texts -/
theorem call_lower {x : Str} (hz : x.length ≤ 100000) (h : K (.str (Txt.lower x)) σ) : CallM W n (.builtin "str.lower") [.str x] [] σ K KE := by with_unfolding_all exact (fun sc c g ρ loc s vs kvs C G r kr => by
  cases kr; cases r with | cons r₁ r₂ =>
  cases r₁; cases r₂
  exact SCL.lower (by omega) fun _ => Post.nowT G (.str _ _) h)
theorem call_upper {x : Str} (hz : x.length ≤ 100000) (h : K (.str (Txt.upper x)) σ) : CallM W n (.builtin "str.upper") [.str x] [] σ K KE := by with_unfolding_all exact (fun sc c g ρ loc s vs kvs C G r kr => by
  cases kr; cases r with | cons r₁ r₂ =>
  cases r₁; cases r₂
  exact SCL.upper (by omega) fun _ => Post.nowT G (.str _ _) h)
theorem getM_lower {x : Str} : GetM W (.str x) (Str.ofString "lower") σ (.builtin "str.lower") := by with_unfolding_all exact (getM_str "lower" "str.lower" fun h => GM.lower h)
end
end
section
open PySem PySem.W PyProof.Rows
/-- an exception with its entry of this frame, and the mark there -/
structure XAt (c : Cx) (h₀ h : Heap) (x : Value) (xc : Xc) (fl : Value) : Prop where
  ex : ∃ e, x = .ref e ∧ h₀.get? e = none ∧ ∃ oe vs T oT ts, h.get? e = some oe ∧ oe.cls = xc.cls ∧ oe.data = .fields vs ∧ vs[1]? = some (.ref T) ∧ h₀.get? T = none ∧ T ≠ e ∧ h.get? T = some oT ∧ oT.data = .fields ts ∧ ts[3]? = some fl
  keep : ∀ b o, h₀.get? b = some o → b ∉ c.stack.filterMap (·.frame) → h.get? b = some o
  slots : ∀ b o, h₀.get? b = some o → ∃ sl, h.get? b = some { o with slots := sl }

section
variable {W : Wd} {c : Cx} {g g₁ : Heap} {ρ ρ₁ : Rho} {loc : Loc} {σ σ' : Hp} {s s₁ : Shared} {n : Nat} {sc : Scope}

theorem XAt.fly {h₀ h : Heap} {x : Value} {xc : Xc} {fl : Value} (X : XAt c h₀ h x xc fl) (hf : fl = .none ∨ ∃ L, c.env.frame = some L ∧ fl = rawInt L) : XFly c h₀ h x xc := by
  obtain ⟨e, rfl, he0, oe, vs, T, oT, ts, t1, t2, t3, t4, t5, t6, t7, t8, t9⟩ := X.ex
  refine ⟨⟨e, rfl, he0, oe, vs, t1, t2, t3, .inr ⟨T, oT, ts, t4, t5, t6, t7, t8, ?_⟩⟩, X.keep, X.slots⟩
  rcases hf with rfl | ⟨L, hL, rfl⟩
  · exact .inl t9
  · exact .inr ⟨L, hL, t9⟩

theorem note_ok (C : COk W n sc c) {h₀ : Heap} {x : Value} {xc : Xc} {L : Addr} (hfr : c.env.frame = some L) {outer : List Env} (hst : c.stack = c.env :: outer) {A : Around} (hA : A.frames = c.A.frames)
    (G : Good W c g ρ loc σ { s with heap := h₀ }) (X : XFly c h₀ s.heap x xc) {Q : Unit → Shared → Prop} {E : Value → Shared → Prop}
    (h : ∀ h', XAt c h₀ h' x xc (rawInt L) → Q () { s with heap := h' }) : wpAny (Mo W) A (noteFrame x c.env) Q E s := by
  obtain ⟨e, rfl, he0, oe, vs, he, hcls, hd, hst'⟩ := X.ex
  have FR := Good.frames C G X.slots
  let fs := c.stack.filterMap (·.frame)
  let base := hideAll h₀ fs
  have hkb : base.StaysIn s.heap := fun b o q => by
    have h1 := of_hideAll fs q
    exact X.keep b o h1 fun hm => by rw [hideAll_none fs hm] at q; cases q
  have hen : base.get? e = none := by
    cases q : base.get? e with
    | none => rfl
    | some o => rw [of_hideAll fs q] at he0; cases he0
  have hl : s.heap.FunFrames base c.stack := funFrames_of fun e' he' => by
    obtain ⟨a, L, o, b, _, d, f⟩ := FR e' he'
    exact ⟨a, L, o, b, hideAll_none fs (List.mem_filterMap.mpr ⟨e', he', b⟩), d, f⟩
  rw [hst] at hl
  have fin : ∀ h' a0, base.StaysIn h' → h'.TracedAtW base e xc.cls a0 (rawInt L) → (∀ b o, s.heap.get? b = some o → (∀ vs, o.data ≠ .fields vs) → ∃ sl, h'.get? b = some { o with slots := sl }) →
      XAt c h₀ h' (.ref e) xc (rawInt L) := by
    intro h' a0 k1 ⟨oe', vs', T, oT, ts, t1, ⟨t2, _⟩, t3, t4, t5, t6, t7, t8, t9⟩ k4
    have inF : ∀ b, b ∈ fs → ∃ o₀, h₀.get? b = some o₀ ∧ (∀ vs, o₀.data ≠ .fields vs) ∧ (∃ sl, h'.get? b = some { o₀ with slots := sl }) := fun b hb => by
      obtain ⟨e', he', hf⟩ := frames_mem hb
      obtain ⟨_, L, o, f1, ⟨o₀, f2, f3⟩, f4, f5⟩ := FR e' he'
      rw [hf] at f1; cases f1
      obtain ⟨sl, q⟩ := X.slots b o₀ f2
      obtain ⟨sl2, q2⟩ := k4 b _ q f3
      exact ⟨o₀, f2, f3, sl2, q2⟩
    refine ⟨⟨e, rfl, he0, oe', vs', T, oT, ts, t1, t2, t3, t4, ?_, t6, t7, t8, t9⟩, fun b o q hb => k1 b o (hideAll_get fs q hb), fun b o q => ?_⟩
    · cases q : h₀.get? T with
      | none => rfl
      | some o =>
        by_cases hT : T ∈ fs
        · obtain ⟨o₀, f2, f3, sl, f4⟩ := inF T hT
          rw [f4] at t7; cases t7
          exact (f3 ts t8).elim
        · have := hideAll_get (l := fs) q hT
          exact nomatch (t5.symm.trans this)
    · by_cases hm : b ∈ fs
      · obtain ⟨o₀, f2, f3, sl, f4⟩ := inF b hm
        rw [q] at f2; cases f2
        exact ⟨sl, f4⟩
      · exact ⟨o.slots, k1 b o (hideAll_get fs q hm)⟩
  have hA' : A.frames = some (c.env :: outer) := by rw [hA, C.fr, hst]
  rcases hst' with h1 | ⟨T, oT, ts, h1, hT0, hTe, hT, hdT, h3⟩
  · have hsz : 1 < vs.size := (Array.getElem?_eq_some_iff.mp h1).1
    have h0 : vs[0]? = some vs[0] := Array.getElem?_eq_getElem (by omega)
    unfold noteFrame
    simp only [hfr]
    refine wpAny_bind (wpAny_field he hd h1 ?_)
    rw [if_neg (by decide)]
    exact wpAny_entryW hA' hl hfr he hkb hen hd hsz h0 fun h' N => h h' (fin h' _ N.1 (by rw [← hcls]; exact N.2.2.1) N.2.2.2)
  · have hbT : base.get? T = none := by
      cases q : base.get? T with
      | none => rfl
      | some o => exact nomatch (hT0.symm.trans (of_hideAll fs q))
    have hsz : 1 < vs.size := (Array.getElem?_eq_some_iff.mp h1).1
    have h0 : vs[0]? = some vs[0] := Array.getElem?_eq_getElem (by omega)
    rcases h3 with h3 | ⟨L', hL', h3⟩
    · exact wpAny_noteFrame_onW hA' hl hfr ⟨oe, vs, T, oT, ts, he, ⟨hcls, h0⟩, hd, h1, hbT, hTe, hT, hdT, h3⟩ hkb hen fun h' N => h h' (fin h' _ N.1 N.2.2.1 N.2.2.2)
    · rw [hfr] at hL'; cases hL'
      exact wpAny_noteFrame_inFlight hfr he hd h1 hT hdT h3 (h s.heap ⟨⟨e, rfl, he0, oe, vs, T, oT, ts, he, hcls, hd, h1, hT0, hTe, hT, hdT, h3⟩, X.keep, X.slots⟩)

/-- the mark turned -/
theorem XAt.turn {h₀ h : Heap} {x : Value} {xc : Xc} {fl : Value} (X : XAt c h₀ h x xc fl) (fr : Option Addr) {A : Around} {E : Value → Shared → Prop} {Q : Unit → Shared → Prop} (hs : s.heap = h)
    (k : ∀ h', XAt c h₀ h' x xc (fr.elim .none fun f => rawInt f) → Q () { s with heap := h' }) : wpAny (Mo W) A (setFlight x fr) Q E s := by
  obtain ⟨e, rfl, he0, oe, vs, T, oT, ts, t1, t2, t3, t4, t5, t6, t7, t8, t9⟩ := X.ex
  subst hs
  have hsz3 : 3 < ts.size := (Array.getElem?_eq_some_iff.mp t9).1
  have other : ∀ b, b ≠ T → (s.heap.update T (Obj.mapFields (·.setIfInBounds 3 (fr.elim Value.none fun f => rawInt f)))).get? b = s.heap.get? b := fun b hb => Heap.get?_update_other _ _ (Ne.symm hb)
  have ne0 : ∀ b o, h₀.get? b = some o → b ≠ T := fun b o e q => by rw [q, t5] at e; cases e
  unfold setFlight
  refine wpAny_bind (wpAny_field t1 t3 t4 ?_)
  rw [if_pos (show (Value.ref T != Value.none) = true from by simp)]
  refine wpAny_setField t7 t8 hsz3 (k _ ⟨⟨e, rfl, he0, oe, vs, T, _, _, (other e (Ne.symm t6)).trans t1, t2, t3, t4, t5, t6, Heap.get?_update_self _ t7 (Obj.isFreed_of_fields (Obj.data_mapFields t8 _)), Obj.data_mapFields t8 _, by simp [hsz3]⟩, fun b o q hb => ?_, fun b o q => ?_⟩)
  · exact (other b (ne0 b o q)).trans (X.keep b o q hb)
  · obtain ⟨sl, q'⟩ := X.slots b o q
    exact ⟨sl, (other b (ne0 b o q)).trans q'⟩

theorem XAt.field1 {h₀ h : Heap} {x : Value} {xc : Xc} {fl : Value} (X : XAt c h₀ h x xc fl) (hs : s.heap = h) {A : Around} {E : Value → Shared → Prop} {Q : Value → Shared → Prop} (k : ∀ T, Q (.ref T) s) : wpAny (Mo W) A (field x 1) Q E s := by
  obtain ⟨e, rfl, he0, oe, vs, T, oT, ts, t1, t2, t3, t4, t5, t6, t7, t8, t9⟩ := X.ex
  subst hs
  exact wpAny_field t1 t3 t4 (k T)

theorem came_ok {h₀ h : Heap} {x : Value} {xc : Xc} {fl : Value} (X : XAt c h₀ h x xc fl) (hs : s.heap = h) {L : Addr} (hfr : c.env.frame = some L) {A : Around} {E : Value → Shared → Prop}
    (k : ∀ h', XAt c h₀ h' x xc (rawInt L) → E x { s with heap := h' }) : cameBackBy (Mo W) A c.env E x s := by
  unfold cameBackBy
  refine wpAny_bind (X.field1 hs fun T => ?_)
  rw [if_neg (show ¬ ((Value.ref T == Value.none) = true) from by simp)]
  rw [hfr]
  exact X.turn (some L) hs fun h' X' => k h' X'

/-- through a loop of this frame -/
theorem SXPost.loops {KE : Xc → Loc → Hp → Prop} (C : COkS W n sc c) {x : Value} {s' : Shared} {A₁ A₂ : Around} (h1 : A₁.frames = c.A.frames) (q : SXPost W c g ρ s KE x s') :
    notedBy (Mo W) A₁ c.env (cameBackBy (Mo W) A₂ c.env (SXPost W c g ρ s KE)) x s' := by
  obtain ⟨xc, l', σ', g', ρ', h₀, k, st, G, X⟩ := q
  obtain ⟨outer, ho⟩ := C.top'
  refine note_ok (s := s') C.toCOk C.frm ho h1 G X fun h' X' => ?_
  refine came_ok (s := { s' with heap := h' }) X' rfl C.frm fun h'' X'' => ?_
  exact ⟨xc, l', σ', g', ρ', h₀, k, st, G, X''.fly (.inr ⟨_, C.frm, rfl⟩)⟩
theorem SXPost.notes {KE : Xc → Loc → Hp → Prop} (C : COkS W n sc c) {x : Value} {s' : Shared} {A₁ : Around} (h1 : A₁.frames = c.A.frames) (q : SXPost W c g ρ s KE x s') :
    notedBy (Mo W) A₁ c.env (SXPost W c g ρ s KE) x s' := by
  obtain ⟨xc, l', σ', g', ρ', h₀, k, st, G, X⟩ := q
  obtain ⟨outer, ho⟩ := C.top'
  refine note_ok (s := s') C.toCOk C.frm ho h1 G X fun h' X' => ?_
  exact ⟨xc, l', σ', g', ρ', h₀, k, st, G, X'.fly (.inr ⟨_, C.frm, rfl⟩)⟩

theorem Good.frames_not (C : COk W n sc c) (G : Good W c g ρ loc σ s) {b : Addr} (hb : b ∈ c.stack.filterMap (·.frame)) : g.get? b = none ∧ (∀ p ∈ ρ, p.1 ≠ b ∧ p.2 ≠ b) ∧ ¬ Priv c g ρ b := by
  obtain ⟨e, he, hf⟩ := frames_mem hb
  obtain ⟨_, L, hL, hq⟩ := C.stk e he
  rw [hf] at hL; cases hL
  rcases hq with rfl | ⟨d, hd⟩
  · exact ⟨G.ns.2.1, G.ns.2.2, fun P => P.l rfl⟩
  · exact ⟨(G.kep _ hd).2.1, (G.kep _ hd).2.2, fun P => P.k _ hd rfl⟩

/-- caught: the heap is the real one again -/
theorem Good.land (C : COk W n sc c) {h₀ h : Heap} {s' : Shared} (st : Step c g ρ s g₁ ρ₁ { s' with heap := h₀ }) (G : Good W c g₁ ρ₁ loc σ { s' with heap := h₀ })
    (keep : ∀ b o, h₀.get? b = some o → b ∉ c.stack.filterMap (·.frame) → h.get? b = some o) (slots : ∀ b o, h₀.get? b = some o → ∃ sl, h.get? b = some { o with slots := sl }) :
    Good W c g₁ ρ₁ loc σ { s' with heap := h } ∧ Step c g ρ s g₁ ρ₁ { s' with heap := h } := by
  have off : ∀ b o, h₀.get? b = some o → (g₁.get? b ≠ none ∨ (∃ p ∈ ρ₁, p.1 = b ∨ p.2 = b) ∨ Priv c g₁ ρ₁ b) → h.get? b = some o := fun b o e hh => by
    refine keep b o e fun hb => ?_
    obtain ⟨n1, n2, n3⟩ := G.frames_not C hb
    rcases hh with h1 | ⟨p, hp, h1⟩ | h1
    · exact h1 n1
    · rcases h1 with h1 | h1
      · exact (n2 p hp).1 h1
      · exact (n2 p hp).2 h1
    · exact n3 h1
  have kN : ∀ a m, h₀.Ns a m → h.Ns a m := fun a m ⟨o, es, ep, ho, r⟩ => by
    obtain ⟨sl, q⟩ := slots a o ho; exact ⟨_, es, ep, q, r⟩
  have kC : ∀ a v, h₀.IsCell a v → h.IsCell a v := fun a v ⟨o, ho, r⟩ => by
    obtain ⟨sl, q⟩ := slots a o ho; exact ⟨_, q, r⟩
  have er : ∀ p ∈ ρ₁, h.get? p.1 = h₀.get? p.1 ∧ h.get? p.2 = h₀.get? p.2 := fun p hp => by
    obtain ⟨⟨o1, q1⟩, ⟨o2, q2⟩⟩ := G.rho hp
    exact ⟨(off _ o1 q1 (.inr (.inl ⟨p, hp, .inl rfl⟩))).trans q1.symm, (off _ o2 q2 (.inr (.inl ⟨p, hp, .inr rfl⟩))).trans q2.symm⟩
  refine ⟨⟨G.base, fun b o e => off b o (G.gh b o e) (.inl (by rw [e]; simp)), G.gρ, G.ρd, G.len, fun i p o e1 e2 => ?_, G.os, G.gens, G.gqOf fun p hp => (er p hp).1, fun x mv e => ?_, ⟨?_, G.ns.2⟩, fun x hx => ⟨?_, (G.cel x hx).2⟩, fun q hq => ⟨?_, (G.kep q hq).2⟩⟩, ⟨st.ge, st.re, fun a o e P => ?_⟩⟩
  · have hp := List.mem_of_getElem? e1
    exact (G.objs i p o e1 e2).mono (StaysIn.refl _) (RLe.refl _) (er p hp).1 (er p hp).2 (fun _ _ => rfl)
  · obtain ⟨v, H, r⟩ := G.locs x mv e
    exact ⟨v, H.keep (fun m q => kN _ m q) (fun y _ v q => kC _ v q), r⟩
  · obtain ⟨m, hm⟩ := G.ns.1; exact ⟨m, kN _ m hm⟩
  · obtain ⟨v, hv⟩ := (G.cel x hx).1; exact ⟨v, kC _ v hv⟩
  · obtain ⟨o, ho, hd, hf⟩ := (G.kep q hq).1
    obtain ⟨sl, q'⟩ := slots _ o ho
    exact ⟨_, q', hd, hf⟩
  · obtain ⟨e', P'⟩ := st.ke a o e P
    exact ⟨off a o e' (.inr (.inr P')), P'⟩
end
end
section
open PySem PySem.W PyProof.Rows
/-- the end of an iterator: it is still there -/
def Kept1 (it : Addr) (h h' : Heap) : Prop := Heap.ExtBut it h h' ∧ ∃ o, h'.get? it = some o ∧ (o.cls == .type "generator") = false

theorem nogen_of {h : Heap} {a : Addr} {o : Obj} (e : h.get? a = some o) (hc : (o.cls == .type "generator") = false) : ∀ x, ¬ h.IsGen a x := fun x ⟨o', _, _, h', hc', _⟩ => by
  rw [e] at h'; cases h'
  rw [hc'] at hc; simp at hc

section
variable {prog : Program} {w : World} {A : Around} {E : Value → Shared → Prop} {s : Shared}

/-- StopIteration, raised -/
theorem stop_raise {α : Type} {A₁ : Around} {F : Value → Shared → Prop} {Q : α → Shared → Prop} (hh : A₁.handled = none)
    (hF : ∀ h' e, (∀ b o, s.heap.get? b = some o → h'.get? b = some o) → (∃ o, h'.get? e = some o ∧ o.cls = .type "StopIteration") → F (.ref e) { s with heap := h' }) :
    wpAny (model prog w) A₁ (Builtin.SmallTypes.stopIteration : Sem α) Q F s := by
  show wpAny _ _ (newExc (.type "StopIteration") [] >>= _) _ _ _
  refine wpAny_bind ?_
  simp only [newExc, newTuple]
  refine wpAny_bind (wpAny_newObj_type ?_ (by size_fits))
  refine wpAny_bind (m := firstArgMember _ _) (wpAny_of_eq (a := Value.none) (by first | rfl | (simp only [firstArgMember]; rfl)) ?_)
  refine wpAny_newObj_type ?_ (by size_fits)
  simp only [raiseNew]
  refine wpAny_bind (wpAny_handled ?_)
  rw [hh]
  exact wpAny_bind (wpAny_pure (wpAny_throw (hF _ _ (fun b o e => Heap.get?_push_of_some _ (Heap.get?_push_of_some _ e)) ⟨_, Heap.get?_push_size _ rfl, rfl⟩)))

/-- StopIteration, raised and caught -/
theorem stop_tail {α : Type} {A₁ : Around} {Q : Option Value → Shared → Prop} (hh : A₁.handled = none)
    (hQ : ∀ h', (∀ b o, s.heap.get? b = some o → h'.get? b = some o) → Q none { s with heap := h' }) :
    wpAny (model prog w) A₁ (Builtin.SmallTypes.stopIteration : Sem α) (fun _ _ => False)
      (fun e s' => wpAny (model prog w) A (isInstance e (.type "StopIteration") >>= fun b => if b = true then pure none else throw e) Q E s') s := by
  refine stop_raise hh fun h' e k hx => ?_
  obtain ⟨o, ho, hc⟩ := hx
  refine wpAny_bind (wpAny_isInstance (T := "StopIteration") (b := true) ⟨o, ho, hc⟩ isSubtype_stop ?_)
  exact wpAny_pure (hQ _ k)

theorem list_end {it l : Addr} {i : Nat} {items : Array Value} {Q : Option Value → Shared → Prop} (hh : A.handled = none)
    (hit : s.heap.IsListIter it l i) (hl : s.heap.IsList l items) (hx : items[i]? = none)
    (hQ : ∀ h', Kept1 it s.heap h' → Q none { s with heap := h' }) : wpAny (model prog w) A (pyNext (.ref it)) Q E s := by
  obtain ⟨o, ho, hc, hd⟩ := id hit
  obtain ⟨ol, hol, _, nl, hdl⟩ := hl
  unfold pyNext
  refine wpAny_bind (wpAny_attempt (wpAny_callSpecial?_slot (name := Str.ofString "__next__") hit.typeIs slot_listiter_next
    (wpAny_call_entry slot_listiter_next hit.typeIs entry_listiter_next ?_ (args_listiter_next _))))
  show wpAny _ _ (field (.ref it) 0 >>= _) _ _ s
  refine wpAny_bind (wpAny_field ho hd (x := .ref l) rfl ?_)
  show wpAny _ _ (if (Value.ref l == Value.none) = true then _ else _) _ _ s
  rw [if_neg (show ¬ ((Value.ref l == Value.none) = true) from Bool.false_ne_true)]
  show wpAny _ _ (field (.ref it) 1 >>= _) _ _ s
  refine wpAny_bind (wpAny_field ho hd (x := .int i 0) rfl ?_)
  show wpAny _ _ (seqItems? (.ref l) >>= _) _ _ s
  refine wpAny_bind (wpAny_seqItems hol hdl ?_)
  simp only [Int.toNat_natCast, hx]
  refine wpAny_bind (wpAny_rule (wpAny_bind (wpAny_setField ho hd (by simp) ?_)))
  refine wpAny_mono (stop_tail (A := A) (E := E) (Q := Q) hh fun h' k => hQ h' ⟨(Heap.SameBut.update ..).extBut.trans fun b o _ e => k b o e, ?_⟩) (fun _ _ x => x.elim) fun _ _ x => x
  exact ⟨_, k _ _ (Heap.get?_update_self _ ho (Obj.isFreed_of_fields (Obj.data_mapFields hd _))), by rw [Obj.cls_mapFields, hc]; rfl⟩

theorem tuple_end {it l : Addr} {i : Nat} {items : Array Value} {Q : Option Value → Shared → Prop} (hh : A.handled = none)
    (hit : s.heap.IsTupleIter it l i) (hl : s.heap.IsTuple l items) (hx : items[i]? = none)
    (hQ : ∀ h', Kept1 it s.heap h' → Q none { s with heap := h' }) : wpAny (model prog w) A (pyNext (.ref it)) Q E s := by
  obtain ⟨o, ho, hc, hd⟩ := id hit
  obtain ⟨ol, hol, _, nl, hdl⟩ := hl
  unfold pyNext
  refine wpAny_bind (wpAny_attempt (wpAny_callSpecial?_slot (name := Str.ofString "__next__") hit.typeIs F.slot_tuple_iterator_next
    (wpAny_call_entry F.slot_tuple_iterator_next hit.typeIs F.entry_tuple_iterator_next ?_ (F.args_tuple_iterator_next_1 _))))
  show wpAny _ _ (field (.ref it) 0 >>= _) _ _ s
  refine wpAny_bind (wpAny_field ho hd (x := .ref l) rfl ?_)
  show wpAny _ _ (if (Value.ref l == Value.none) = true then _ else _) _ _ s
  rw [if_neg (show ¬ ((Value.ref l == Value.none) = true) from Bool.false_ne_true)]
  show wpAny _ _ (field (.ref it) 1 >>= _) _ _ s
  refine wpAny_bind (wpAny_field ho hd (x := .int i 0) rfl ?_)
  show wpAny _ _ (seqItems? (.ref l) >>= _) _ _ s
  refine wpAny_bind (wpAny_seqItems hol hdl ?_)
  simp only [Int.toNat_natCast, hx]
  refine wpAny_bind (wpAny_rule (wpAny_bind (wpAny_setField ho hd (by simp) ?_)))
  refine wpAny_mono (stop_tail (A := A) (E := E) (Q := Q) hh fun h' k => hQ h' ⟨(Heap.SameBut.update ..).extBut.trans fun b o _ e => k b o e, ?_⟩) (fun _ _ x => x.elim) fun _ _ x => x
  exact ⟨_, k _ _ (Heap.get?_update_self _ ho (Obj.isFreed_of_fields (Obj.data_mapFields hd _))), by rw [Obj.cls_mapFields, hc]; rfl⟩

theorem range_end {it : Addr} {x left step : Int} {Q : Option Value → Shared → Prop} (hh : A.handled = none) (hit : IsRangeIter s.heap it x left step) (hleft : left ≤ 0)
    (hQ : ∀ h', Kept1 it s.heap h' → Q none { s with heap := h' }) : wpAny (model prog w) A (pyNext (.ref it)) Q E s := by
  have hT : s.TypeIs (.ref it) "range_iterator" := ⟨_, hit, rfl⟩
  unfold pyNext
  refine wpAny_bind (wpAny_attempt (wpAny_callSpecial?_slot (name := Str.ofString "__next__") hT F.slot_range_iterator_next
    (wpAny_call_entry F.slot_range_iterator_next hT F.entry_range_iterator_next ?_ (F.args_range_iterator_next_1 _))))
  show wpAny _ _ (field (.ref it) 0 >>= _) _ _ s
  refine wpAny_bind (wpAny_field hit rfl (x := rawInt x) rfl ?_)
  show wpAny _ _ (field (.ref it) 1 >>= _) _ _ s
  refine wpAny_bind (wpAny_field hit rfl (x := rawInt left) rfl ?_)
  show wpAny _ _ (field (.ref it) 2 >>= _) _ _ s
  refine wpAny_bind (wpAny_field hit rfl (x := rawInt step) rfl ?_)
  show wpAny _ _ (if left ≤ 0 then _ else _) _ _ s
  rw [if_pos hleft]
  refine wpAny_bind (wpAny_rule ?_)
  refine wpAny_bind ?_
  refine wpAny_mono (stop_tail (A := A) (E := E) (Q := Q) hh fun h' k => hQ h' ⟨fun b o _ e => k b o e, ⟨_, k _ _ hit, rfl⟩⟩) (fun _ _ x => False.elim x) fun _ _ x => x
end
end
section
open PySem PySem.W PyProof.Rows
/-- an object by itself -/
def objSem (ok : Nat → Bool) (R : Heap → Rho → Obj → Prop) (mono : ∀ {g g' ρ ρ' o}, g.StaysIn g' → RLe ρ ρ' → R g ρ o → R g' ρ' o) (take : ∀ {g ρ o k}, ok k = true → R g ρ o → R g (ρ.take k) o) : SemObj where
  rel g ρ h gs q := q.2 = q.1 ∧ ∃ o, h.get? q.1 = some o ∧ R g ρ o
  ok := ok
  there := fun ⟨e, o, h, _⟩ => ⟨⟨o, h⟩, ⟨o, by rw [e]; exact h⟩⟩
  mono := fun k r e1 e2 _ ⟨e, o, h, x⟩ => ⟨e, o, e1.trans h, mono k r x⟩
  take := fun q ⟨e, o, h, x⟩ => ⟨e, o, h, take q x⟩

def listIt (src : MV) (p : Nat) : SemObj := objSem (fun k => src.ok k) (fun g ρ o => ∃ l, VRel g ρ src (.ref l) ∧ o.cls = .type "list_iterator" ∧ o.data = .fields #[.ref l, .int p 0])
  (fun k r ⟨l, x, y⟩ => ⟨l, x.mono k r, y⟩) (fun q ⟨l, x, y⟩ => ⟨l, x.take q, y⟩)
def tupIt (items : List MV) (p : Nat) : SemObj := objSem (fun k => oksL k items) (fun g ρ o => ∃ l, VRel g ρ (.tup items) (.ref l) ∧ o.cls = .type "tuple_iterator" ∧ o.data = .fields #[.ref l, .int p 0])
  (fun k r ⟨l, x, y⟩ => ⟨l, x.mono k r, y⟩) (fun q ⟨l, x, y⟩ => ⟨l, x.take (by rw [MV.ok]; exact q), y⟩)
def rngIt (x left step : Int) : SemObj := objSem (fun _ => true) (fun g ρ o => o = { cls := .type "range_iterator", dict := none, data := .fields #[rawInt x, rawInt left, rawInt step], slots := #[] })
  (fun _ _ e => e) (fun _ e => e)
def enumIt (it : Nat) (i : Int) : SemObj := objSem (fun k => decide (it < k)) (fun g ρ o => ∃ p old, ρ[it]? = some p ∧ o = { cls := .type "enumerate", dict := none, data := .fields #[.none, .bool false, .ref p.1, rawInt i, .none, old], slots := #[] })
  (fun _ r ⟨p, old, e, h⟩ => by obtain ⟨p', e', q⟩ := r _ _ e; exact ⟨p', old, e', by rw [q]; exact h⟩) (fun q ⟨p, old, e, h⟩ => ⟨p, old, (take_get (of_decide_eq_true q)).trans e, h⟩)

section
variable {W : Wd} {c : Cx} {g g₁ : Heap} {ρ ρ₁ : Rho} {loc : Loc} {σ σ' : Hp} {s s₁ : Shared} {n : Nat} {sc : Scope}
variable {K K' : MV → Hp → Prop} {KE KE' : Xc → Hp → Prop}

/-- handles' objects changed, and new ones -/
theorem Good.change (G : Good W c g ρ loc σ s) {s' : Shared} (hlen : σ'.length = σ.length) (off : ∀ b o, s.heap.get? b = some o → (∀ p ∈ ρ, p.1 ≠ b ∧ p.2 ≠ b) → s'.heap.get? b = some o)
    (objs : ∀ (i : Nat) p o, ρ[i]? = some p → σ'[i]? = some o → ORel g ρ s'.heap s'.gens p o) (ho : s'.os = s.os) (hg : AllBare s'.gens)
    (hq : ∀ (i j : Nat) (p q : Addr × Addr), ρ[i]? = some p → ρ[j]? = some q → ∀ x y, s'.heap.IsGen p.1 x → s'.heap.IsGen q.1 y → x < s'.gens.size ∧ (i ≠ j → x ≠ y)) :
    Good W c g ρ loc σ' s' ∧ Step c g ρ s g ρ s' := by
  have kN : ∀ m, s.heap.Ns c.env.locals m → s'.heap.Ns c.env.locals m := fun m ⟨o, es, ep, e, r⟩ => ⟨o, es, ep, off _ o e G.ns.2.2, r⟩
  have kC : ∀ y ∈ c.env.cells, ∀ v, s.heap.IsCell y.2 v → s'.heap.IsCell y.2 v := fun y hy v ⟨o, e, r⟩ => ⟨o, off _ o e (G.cel y hy).2.2, r⟩
  refine ⟨⟨G.base, fun b o e => off b o (G.gh b o e) fun p hp => ⟨fun q => ?_, fun q => ?_⟩, G.gρ, G.ρd, hlen.trans G.len, objs, ho.trans G.os, hg, hq, fun x mv e => ?_, ⟨?_, G.ns.2⟩, fun x hx => ⟨?_, (G.cel x hx).2⟩, fun q hq => ⟨?_, (G.kep q hq).2⟩⟩, ⟨StaysIn.refl _, RLe.refl _, fun a o e P => ⟨off a o e P.r, P⟩⟩⟩
  · rw [← q, (G.gρ p hp).1] at e; cases e
  · rw [← q, (G.gρ p hp).2] at e; cases e
  · obtain ⟨v, H, r⟩ := G.locs x mv e
    exact ⟨v, H.keep kN kC, r⟩
  · obtain ⟨m, hm⟩ := G.ns.1; exact ⟨m, kN m hm⟩
  · obtain ⟨v, hv⟩ := (G.cel x hx).1; exact ⟨v, kC x hx v hv⟩
  · obtain ⟨o, e, r⟩ := (G.kep q hq).1
    exact ⟨o, off _ o e (G.kep q hq).2.2, r⟩

theorem Good.apart (G : Good W c g ρ loc σ s) {i j : Nat} {p q : Addr × Addr} (hi : ρ[i]? = some p) (hj : ρ[j]? = some q) (ne : i ≠ j) : p.1 ≠ q.1 ∧ p.1 ≠ q.2 ∧ p.2 ≠ q.1 ∧ p.2 ≠ q.2 := by
  have pw := List.pairwise_iff_getElem.mp G.ρd
  obtain ⟨hj1, hj2⟩ := List.getElem?_eq_some_iff.mp hj
  obtain ⟨hi1, hi2⟩ := List.getElem?_eq_some_iff.mp hi
  rcases Nat.lt_or_gt_of_ne ne with h | h
  · have := pw i j hi1 hj1 h
    rw [hj2, hi2] at this; exact this
  · have := pw j i hj1 hi1 h
    rw [hj2, hi2] at this
    exact ⟨Ne.symm this.1, Ne.symm this.2.2.1, Ne.symm this.2.1, Ne.symm this.2.2.2⟩

/-- several handles' objects changed -/
theorem Good.upds (G : Good W c g ρ loc σ s) (S : List Nat) {σ' : Hp} {h' : Heap} {t : Nat} (hlen : σ'.length = σ.length) (hσ : ∀ j, j ∉ S → σ'[j]? = σ[j]?)
    (off : ∀ b o, s.heap.get? b = some o → (∀ i ∈ S, ∀ p, ρ[i]? = some p → p.1 ≠ b ∧ p.2 ≠ b) → h'.get? b = some o)
    (objs : ∀ i ∈ S, ∀ p o, ρ[i]? = some p → σ'[i]? = some o → ORel g ρ h' s.gens p o ∧ ∀ x, ¬ h'.IsGen p.1 x) :
    Good W c g ρ loc σ' { s with heap := h', toks := t } ∧ Step c g ρ s g ρ { s with heap := h', toks := t } := by
  have other : ∀ (j : Nat) (q : Addr × Addr), j ∉ S → ρ[j]? = some q → ∀ o, (s.heap.get? q.1 = some o → h'.get? q.1 = some o) ∧ (s.heap.get? q.2 = some o → h'.get? q.2 = some o) := fun j q hj e o => by
    have d : ∀ i ∈ S, ∀ p, ρ[i]? = some p → (p.1 ≠ q.1 ∧ p.2 ≠ q.1) ∧ (p.1 ≠ q.2 ∧ p.2 ≠ q.2) := fun i hi p hp => by
      have := G.apart hp e (fun q => hj (q ▸ hi))
      exact ⟨⟨this.1, this.2.2.1⟩, ⟨this.2.1, this.2.2.2⟩⟩
    exact ⟨fun z => off _ o z fun i hi p hp => (d i hi p hp).1, fun z => off _ o z fun i hi p hp => (d i hi p hp).2⟩
  have eqs : ∀ (j : Nat) (q : Addr × Addr), j ∉ S → ρ[j]? = some q → h'.get? q.1 = s.heap.get? q.1 ∧ h'.get? q.2 = s.heap.get? q.2 := fun j q hj e => by
    obtain ⟨⟨o1, z1⟩, ⟨o2, z2⟩⟩ := G.rho (List.mem_of_getElem? e)
    exact ⟨((other j q hj e o1).1 z1).trans z1.symm, ((other j q hj e o2).2 z2).trans z2.symm⟩
  have isL : ∀ (i : Nat) p, ρ[i]? = some p → ∃ o, σ'[i]? = some o := fun i p e => by
    have : i < σ'.length := by rw [hlen, G.len]; exact (List.getElem?_eq_some_iff.mp e).1
    exact ⟨_, List.getElem?_eq_getElem this⟩
  refine G.change hlen (fun b o e hb => off b o e fun i _ p hp => hb p (List.mem_of_getElem? hp)) (fun i p o e1 e2 => ?_) rfl G.gens fun i j p q e1 e2 x y h1 h2 => ?_
  · by_cases hi : i ∈ S
    · exact (objs i hi p o e1 e2).1
    · rw [hσ i hi] at e2
      exact (G.objs i p o e1 e2).mono (StaysIn.refl _) (RLe.refl _) (eqs i p hi e1).1 (eqs i p hi e1).2 (fun _ _ => rfl)
  · have key : ∀ (i : Nat) p, ρ[i]? = some p → ∀ x, h'.IsGen p.1 x → s.heap.IsGen p.1 x := fun i p e x hx => by
      by_cases hi : i ∈ S
      · obtain ⟨o, ho⟩ := isL i p e
        exact ((objs i hi p o e ho).2 x hx).elim
      · exact IsGen.of_eq (eqs i p hi e).1 hx
    exact G.gq i j p q e1 e2 x y (key i p e1 x h1) (key j q e2 y h2)

/-- one -/
theorem Good.upd1 (G : Good W c g ρ loc σ s) {i : Nat} {a : Addr} {o' : MO} {h' : Heap} {t : Nat} (hi : ρ[i]? = some (a, a)) (hx : Heap.ExtBut a s.heap h') (r : ORel g ρ h' s.gens (a, a) o') (hng : ∀ x, ¬ h'.IsGen a x) :
    Good W c g ρ loc (σ.set i o') { s with heap := h', toks := t } ∧ Step c g ρ s g ρ { s with heap := h', toks := t } := by
  have hl : i < σ.length := by rw [G.len]; exact (List.getElem?_eq_some_iff.mp hi).1
  refine G.upds [i] (by simp) (fun j hj => List.getElem?_set_ne (by rintro rfl; exact hj (.head _))) (fun b o e hb => hx b o (fun q => (hb i (.head _) _ hi).1 q.symm) e) fun j hj p o e1 e2 => ?_
  rw [List.mem_singleton] at hj; subst hj
  rw [hi] at e1; cases e1
  rw [List.getElem?_set_self hl] at e2; cases e2
  exact ⟨r, hng⟩

/-- a new private object becomes frozen -/
theorem Good.freeze (G : Good W c g ρ loc σ s) {g₀ : Heap} {ρ₀ : Rho} {s₀ : Shared} (st : Step c g₀ ρ₀ s₀ g ρ s) {a : Addr} {o : Obj} (n0 : ∀ b o, s₀.heap.get? b = some o → Priv c g₀ ρ₀ b → b ≠ a) (P : Priv c g ρ a) (e : s.heap.get? a = some o) :
    Good W c (hput g a o) ρ loc σ s ∧ Step c g₀ ρ₀ s₀ (hput g a o) ρ s ∧ (hput g a o).get? a = some o ∧ g.StaysIn (hput g a o) := by
  have ho : o.isFreed = false := (Heap.get?_some_iff.mp e).2
  have le := hput_le (g := g) (a := a) ho P.g
  refine ⟨⟨StaysIn.trans G.base le, hput_in ho G.gh e, fun p hp => ?_, G.ρd, G.len, fun i p o' e1 e2 => ?_, G.os, G.gens, G.gq, fun x mv e => ?_, ⟨G.ns.1, ?_, G.ns.2.2⟩, fun x hx => ⟨(G.cel x hx).1, ?_, (G.cel x hx).2.2⟩, fun q hq => ⟨(G.kep q hq).1, ?_, (G.kep q hq).2.2⟩⟩, ⟨StaysIn.trans st.ge le, st.re, fun b ob e' p' => ?_⟩, hput_self ho, le⟩
  · exact ⟨hput_none ho (G.gρ p hp).1 (P.r p hp).1, hput_none ho (G.gρ p hp).2 (P.r p hp).2⟩
  · exact (G.objs i p o' e1 e2).mono le (RLe.refl _) rfl rfl (fun _ _ => rfl)
  · obtain ⟨v, H, r⟩ := G.locs x mv e
    exact ⟨v, H, r.mono le (RLe.refl _)⟩
  · exact hput_none ho G.ns.2.1 P.l
  · exact hput_none ho (G.cel x hx).2.1 (P.cl x hx)
  · exact hput_none ho (G.kep q hq).2.1 (P.k q hq)
  · obtain ⟨e2, P2⟩ := st.ke b ob e' p'
    exact ⟨e2, hput_none ho P2.g (n0 b ob e' p'), P2.r, P2.l, P2.cl, P2.k⟩

/-- the next of an iterator, and what the loop's target sees -/
@[irreducible] def NxtP (W : Wd) (n : Nat) (t : Expr) (k : Nat) (σ : Hp) (KS : MV → Hp → Prop) (KN : Hp → Prop) : Prop :=
  ∀ sc c g ρ loc s v E, COk W n sc c → Good W c g ρ loc σ s → VRel g ρ (.obj k) v →
    wpAny (Mo W) c.A (pyNext v) (fun r s₁ => match r with
      | none => PostA W c g ρ loc s (fun (_ : Unit) σ' => KN σ') () s₁
      | some x => wpAny (Mo W) c.A (letOwnedTupleGo t v x) (fun _ s₂ => Post W c g ρ loc s KS x s₂) E s₁) E s

theorem lotg_other {A : Around} {t : Expr} {r : Addr} {x : Value} {o : Obj} {T : String} {Q : Unit → Shared → Prop} {E : Value → Shared → Prop} (ho : s.heap.get? r = some o) (hc : o.cls = .type T)
    (hT : ["enumerate", "zip", "dict_itemiterator", "dict_reverseitemiterator", "odict_iterator", "itertools.zip_longest", "itertools.pairwise"].contains T = false) (h : Q () s) : wpAny (Mo W) A (letOwnedTupleGo t (.ref r) x) Q E s := by
  have key : ∀ a, wpAny (Mo W) A (do
      let o ← load r
      match o.cls, o.data with
      | .type n, .fields vs =>
        if ["enumerate", "zip", "dict_itemiterator", "dict_reverseitemiterator", "odict_iterator", "itertools.zip_longest", "itertools.pairwise"].contains n && vs[0]? == some (rawInt a) then
          rule "for.unpacks-the-owned-tuple"
          updateField r 0 .none
      | _, _ => pure ()) Q E s := fun a => by
    refine wpAny_bind (wpAny_load ho ?_)
    rw [hc]
    split
    · rename_i e1 e2
      cases e1
      rw [hT, Bool.false_and]
      exact wpAny_pure h
    · exact wpAny_pure h
  unfold letOwnedTupleGo
  cases t <;> first | exact wpAny_pure h | (cases x <;> first | exact key _ | exact wpAny_pure h)

theorem sem_at {x : SemObj} {k : Nat} {v : Value} (G : Good W c g ρ loc σ s) (hk : σ[k]? = some (.sem x)) (r : VRel g ρ (.obj k) v) : ∃ p, ρ[k]? = some p ∧ v = .ref p.1 ∧ x.rel g ρ s.heap s.gens p := by
  cases r with
  | obj hp =>
    have z := G.objs _ _ _ hp hk
    cases z with
    | sem h => exact ⟨_, hp, rfl, h⟩

theorem nxt_list {t : Expr} {k : Nat} {src : MV} {p : Nat} {l : List MV} {KS : MV → Hp → Prop} {KN : Hp → Prop} (hn : n < 1000) (hk : σ[k]? = some (.sem (listIt src p))) (hl : asList σ src = some l)
    (hs : ∀ m, l[p]? = some m → KS m (σ.set k (.sem (listIt src (p + 1))))) (he : l[p]? = none → KN (σ.set k .dead)) : NxtP W n t k σ KS KN := by with_unfolding_all exact (fun sc c g ρ loc s v E C G r => by
  obtain ⟨⟨a, a2⟩, hp, rfl, e2, o, ho, la, hr, hcl, hd⟩ := sem_at G hk r
  cases e2
  obtain ⟨la', vs, n', e3, hla, hvs⟩ := list_at G hl hr
  cases e3
  have hit : s.heap.IsListIter a la p := ⟨o, ho, hcl, hd⟩
  cases hm : l[p]? with
  | none =>
    have hx : vs.toArray[p]? = none := by
      rw [List.getElem?_toArray, List.getElem?_eq_none_iff]
      rw [← hvs.length]; exact List.getElem?_eq_none_iff.mp hm
    refine list_end (C.hd hn) hit (isList_of hla) hx fun h' K => ?_
    obtain ⟨o', ho', hg'⟩ := K.2
    obtain ⟨G', st⟩ := G.upd1 (o' := .dead) (t := s.toks) hp K.1 (.dead ⟨o', ho'⟩ ⟨o', ho'⟩) (nogen_of ho' hg')
    exact ⟨_, g, ρ, he hm, st, G'⟩
  | some m =>
    obtain ⟨x, hx, rx⟩ := hvs.get hm
    have hx' : vs.toArray[p]? = some x := by rw [List.getElem?_toArray]; exact hx
    refine wpAny_pyNext_list_item hit (isList_of hla) hx' fun h' hit' hs' => ?_
    obtain ⟨o', ho', hc', hd'⟩ := id hit'
    obtain ⟨G', st⟩ := G.upd1 (o' := .sem (listIt src (p + 1))) (t := s.toks) hp hs'.extBut (.sem ⟨rfl, o', ho', la, hr, hc', hd'⟩) (nogen_of ho' (by rw [hc']; rfl))
    exact lotg_other ho' hc' (by decide) ⟨m, _, g, ρ, hs m hm, st, G', rx⟩)

theorem tup_at (G : Good W c g ρ loc σ s) {v : Value} {l : List MV} (r : VRel g ρ (.tup l) v) : ∃ a vs n, v = .ref a ∧ s.heap.get? a = some (tupObj vs n) ∧ VRels g ρ l vs := by
  cases r with
  | tup h hs => exact ⟨_, _, _, rfl, G.gh _ _ h, hs⟩

theorem isTuple_of {h : Heap} {a : Addr} {vs : List Value} {n : Nat} (e : h.get? a = some (tupObj vs n)) : h.IsTuple a vs.toArray := ⟨_, e, rfl, _, rfl⟩

theorem nxt_tuple {t : Expr} {k : Nat} {p : Nat} {l : List MV} {KS : MV → Hp → Prop} {KN : Hp → Prop} (hn : n < 1000) (hk : σ[k]? = some (.sem (tupIt l p)))
    (hs : ∀ m, l[p]? = some m → KS m (σ.set k (.sem (tupIt l (p + 1))))) (he : l[p]? = none → KN (σ.set k .dead)) : NxtP W n t k σ KS KN := by with_unfolding_all exact (fun sc c g ρ loc s v E C G r => by
  obtain ⟨⟨a, a2⟩, hp, rfl, e2, o, ho, la, hr, hcl, hd⟩ := sem_at G hk r
  cases e2
  obtain ⟨la', vs, n', e3, hla, hvs⟩ := tup_at G hr
  cases e3
  have hit : s.heap.IsTupleIter a la p := ⟨o, ho, hcl, hd⟩
  cases hm : l[p]? with
  | none =>
    have hx : vs.toArray[p]? = none := by
      rw [List.getElem?_toArray, List.getElem?_eq_none_iff]
      rw [← hvs.length]; exact List.getElem?_eq_none_iff.mp hm
    refine tuple_end (C.hd hn) hit (isTuple_of hla) hx fun h' K => ?_
    obtain ⟨o', ho', hg'⟩ := K.2
    obtain ⟨G', st⟩ := G.upd1 (o' := .dead) (t := s.toks) hp K.1 (.dead ⟨o', ho'⟩ ⟨o', ho'⟩) (nogen_of ho' hg')
    exact ⟨_, g, ρ, he hm, st, G'⟩
  | some m =>
    obtain ⟨x, hx, rx⟩ := hvs.get hm
    have hx' : vs.toArray[p]? = some x := by rw [List.getElem?_toArray]; exact hx
    refine wpAny_pyNext_tuple_item hit (isTuple_of hla) hx' fun h' hit' hs' => ?_
    obtain ⟨o', ho', hc', hd'⟩ := id hit'
    obtain ⟨G', st⟩ := G.upd1 (o' := .sem (tupIt l (p + 1))) (t := s.toks) hp hs'.extBut (.sem ⟨rfl, o', ho', la, hr, hc', hd'⟩) (nogen_of ho' (by rw [hc']; rfl))
    exact lotg_other ho' hc' (by decide) ⟨m, _, g, ρ, hs m hm, st, G', rx⟩)

theorem nxt_range {t : Expr} {k : Nat} {x left step : Int} {KS : MV → Hp → Prop} {KN : Hp → Prop} (hn : n < 1000) (hk : σ[k]? = some (.sem (rngIt x left step)))
    (hs : 0 < left → KS (.int x) (σ.set k (.sem (rngIt (x + step) (left - 1) step)))) (he : left ≤ 0 → KN (σ.set k .dead)) : NxtP W n t k σ KS KN := by with_unfolding_all exact (fun sc c g ρ loc s v E C G r => by
  obtain ⟨⟨a, a2⟩, hp, rfl, e2, o, ho, rfl⟩ := sem_at G hk r
  cases e2
  by_cases hl : 0 < left
  · refine wpAny_pyNext_range_item ho hl fun h' hit' hs' => ?_
    obtain ⟨G', st⟩ := G.upd1 (o' := .sem (rngIt (x + step) (left - 1) step)) (t := s.toks + 1) hp hs'.extBut (.sem ⟨rfl, _, hit', rfl⟩) (nogen_of hit' rfl)
    exact lotg_other hit' rfl (by decide) ⟨.int x, _, g, ρ, hs hl, st, G', .int x s.toks⟩
  · refine range_end (C.hd hn) ho (by omega) fun h' K => ?_
    obtain ⟨o', ho', hg'⟩ := K.2
    obtain ⟨G', st⟩ := G.upd1 (o' := .dead) (t := s.toks) hp K.1 (.dead ⟨o', ho'⟩ ⟨o', ho'⟩) (nogen_of ho' hg')
    exact ⟨_, g, ρ, he (by omega), st, G'⟩)

/-! iter() of a thing -/
@[irreducible] def IterP (W : Wd) (n : Nat) (m : MV) (σ : Hp) (K : Nat → Hp → Prop) : Prop :=
  ∀ sc c g ρ loc s v E, COk W n sc c → Good W c g ρ loc σ s → VRel g ρ m v → wpAny (Mo W) c.A (pyIter v) (Post W c g ρ loc s (fun m' σ' => ∃ k, m' = .obj k ∧ K k σ')) E s

theorem newHandle {o : Obj} {x : SemObj} (G : Good W c g ρ loc σ s) (ho : o.isFreed = false) (hng : (o.cls == .type "generator") = false) {t : Nat}
    (hr : ∀ h' a, h'.get? a = some o → x.rel g ρ h' s.gens (a, a)) {K : Nat → Hp → Prop} (h : K σ.length (σ ++ [.sem x])) :
    Post W c g ρ loc s (fun m' σ' => ∃ k, m' = .obj k ∧ K k σ') (.ref s.heap.objs.size) { s with heap := s.heap.push o, toks := t } := by
  obtain ⟨G', st⟩ := G.allocM (o := o) (mo := .sem x) ho (t := t) (fun h' e _ => .sem (SemObj.mono x (StaysIn.refl _) (RLe.append _ _) rfl rfl (fun _ _ => rfl) (hr h' _ e))) hng
  refine ⟨.obj σ.length, _, g, _, ⟨_, rfl, h⟩, st, G', ?_⟩
  have : (ρ ++ [(s.heap.objs.size, s.heap.objs.size)])[σ.length]? = some (s.heap.objs.size, s.heap.objs.size) := by rw [G.len]; simp
  exact .obj (p := (s.heap.objs.size, s.heap.objs.size)) this

theorem iter_list {m : MV} {l : List MV} {K : Nat → Hp → Prop} (hl : asList σ m = some l) (h : K σ.length (σ ++ [.sem (listIt m 0)])) : IterP W n m σ K := by with_unfolding_all exact (fun sc c g ρ loc s v E C G r => by
  obtain ⟨a, vs, n', rfl, hla, hvs⟩ := list_at G hl r
  exact wpAny_pyIter_list (isList_of hla) (newHandle (x := listIt m 0) (t := s.toks) G rfl rfl (fun h' b e => ⟨rfl, _, e, a, r, rfl, rfl⟩) h))
theorem iter_tuple {l : List MV} {K : Nat → Hp → Prop} (h : K σ.length (σ ++ [.sem (tupIt l 0)])) : IterP W n (.tup l) σ K := by with_unfolding_all exact (fun sc c g ρ loc s v E C G r => by
  obtain ⟨a, vs, n', rfl, hla, hvs⟩ := tup_at G r
  exact wpAny_pyIter_tuple (isTuple_of hla) (newHandle (x := tupIt l 0) (t := s.toks) G rfl rfl (fun h' b e => ⟨rfl, _, e, a, r, rfl, rfl⟩) h))
theorem iter_listIt {k : Nat} {src : MV} {p : Nat} {K : Nat → Hp → Prop} (hk : σ[k]? = some (.sem (listIt src p))) (h : K k σ) : IterP W n (.obj k) σ K := by with_unfolding_all exact (fun sc c g ρ loc s v E C G r => by
  obtain ⟨⟨a, a2⟩, hp, rfl, e2, o, ho, la, hr, hcl, hd⟩ := sem_at G hk r
  exact wpAny_pyIter_listiter ⟨o, ho, hcl, hd⟩ (Post.now G r ⟨k, rfl, h⟩))
theorem iter_enum {k it : Nat} {i : Int} {K : Nat → Hp → Prop} (hk : σ[k]? = some (.sem (enumIt it i))) (h : K k σ) : IterP W n (.obj k) σ K := by with_unfolding_all exact (fun sc c g ρ loc s v E C G r => by
  obtain ⟨⟨a, a2⟩, hp, rfl, e2, o, ho, p, old, hit, rfl⟩ := sem_at G hk r
  exact wpAny_pyIter_enum ho (Post.now G r ⟨k, rfl, h⟩))

/-- a range -/
def rngF (a b c : Int) : FzObj := ⟨fun g v => ∃ r t u w, v = .ref r ∧ IsRange g r a b c t u w, fun k ⟨r, t, u, w, e, h⟩ => ⟨r, t, u, w, e, k _ _ h⟩⟩
theorem iter_range {a b c' : Int} {K : Nat → Hp → Prop} (hsm : Builtin.Range.small a b c' = true) (h : K σ.length (σ ++ [.sem (rngIt a (Builtin.Range.rangeSize a b c') c')])) : IterP W n (.fz (rngF a b c')) σ K := by with_unfolding_all exact (fun sc c g ρ loc s v E C G r => by
  cases r with
  | fz q =>
    obtain ⟨r, t, u, w, rfl, hr⟩ := q
    exact wpAny_pyIter_range (G.gh _ _ hr) hsm (newHandle (x := rngIt a (Builtin.Range.rangeSize a b c') c') (t := s.toks) G rfl rfl (fun h' b e => ⟨rfl, _, e, rfl⟩) h))

theorem enum_end {A : Around} {E : Value → Shared → Prop} {e it l : Addr} {i : Nat} {items : Array Value} {old : Value} {Q : Option Value → Shared → Prop} (hh : A.handled = none)
    (he : IsEnum s.heap e it i old) (hit : s.heap.IsListIter it l i) (hl : s.heap.IsList l items) (hx : items[i]? = none)
    (hQ : ∀ h', Kept1 it s.heap h' → Q none { s with heap := h' }) : wpAny (Mo W) A (pyNext (.ref e)) Q E s := by
  have hT : s.TypeIs (.ref e) "enumerate" := ⟨_, he, rfl⟩
  unfold pyNext
  refine wpAny_bind (wpAny_attempt (wpAny_callSpecial?_slot (name := Str.ofString "__next__") hT F.slot_enumerate_next
    (wpAny_call_entry F.slot_enumerate_next hT F.entry_enumerate_next ?_ (F.args_enumerate_next_1 _))))
  show wpAny _ _ (field (.ref e) 2 >>= _) _ _ _
  refine wpAny_bind (wpAny_field he rfl (x := .ref it) rfl ?_)
  refine wpAny_bind ?_
  unfold Builtin.SmallTypes.nextOf
  obtain ⟨o, ho, hc, hd⟩ := id hit
  obtain ⟨ol, hol, _, nl, hdl⟩ := hl
  refine wpAny_bind (wpAny_callSpecial?_slot (name := Str.ofString "__next__") hit.typeIs slot_listiter_next
    (wpAny_call_entry slot_listiter_next hit.typeIs entry_listiter_next ?_ (args_listiter_next _)))
  show wpAny _ _ (field (.ref it) 0 >>= _) _ _ s
  refine wpAny_bind (wpAny_field ho hd (x := .ref l) rfl ?_)
  show wpAny _ _ (if (Value.ref l == Value.none) = true then _ else _) _ _ s
  rw [if_neg (show ¬ ((Value.ref l == Value.none) = true) from Bool.false_ne_true)]
  show wpAny _ _ (field (.ref it) 1 >>= _) _ _ s
  refine wpAny_bind (wpAny_field ho hd (x := .int i 0) rfl ?_)
  show wpAny _ _ (seqItems? (.ref l) >>= _) _ _ s
  refine wpAny_bind (wpAny_seqItems hol hdl ?_)
  simp only [Int.toNat_natCast, hx]
  refine wpAny_bind (wpAny_rule (wpAny_bind (wpAny_setField ho hd (by simp) ?_)))
  refine stop_raise hh fun h' x k hx => ?_
  obtain ⟨ox, hox, hcx⟩ := hx
  refine wpAny_bind (wpAny_isInstance (T := "StopIteration") (b := true) ⟨ox, hox, hcx⟩ isSubtype_stop ?_)
  refine wpAny_pure (hQ _ ⟨(Heap.SameBut.update ..).extBut.trans fun b o _ e => k b o e, ?_⟩)
  exact ⟨_, k _ _ (Heap.get?_update_self _ ho (Obj.isFreed_of_fields (Obj.data_mapFields hd _))), by rw [Obj.cls_mapFields, hc]; rfl⟩

theorem nxt_enum {t : Expr} {elts : List Expr} {x1} {tp : Pos} (ht : t = .Tuple elts x1 tp) {k it : Nat} {i : Nat} {src : MV} {l : List MV} {KS : MV → Hp → Prop} {KN : Hp → Prop} (hn : n < 1000) (hne : k ≠ it) (hk : σ[k]? = some (.sem (enumIt it i))) (hi : σ[it]? = some (.sem (listIt src i))) (hl : asList σ src = some l)
    (hs : ∀ m, l[i]? = some m → KS (.tup [.int i, m]) ((σ.set it (.sem (listIt src (i + 1)))).set k (.sem (enumIt it (i + 1))))) (he : l[i]? = none → KN ((σ.set it .dead).set k .dead)) : NxtP W n t k σ KS KN := by with_unfolding_all exact (fun sc c g ρ loc s v E C G r => by
  subst ht
  obtain ⟨⟨a, a2⟩, hp, rfl, e2, o, ho, pit, old, hpit, rfl⟩ := sem_at G hk r
  cases e2
  have hpit0 := hpit
  obtain ⟨⟨b, b2⟩, hb, eb, e3, ob, hob, la, hr, hcl, hd⟩ := sem_at G hi (.obj hpit)
  rw [hpit] at hb; cases hb
  cases e3
  obtain ⟨la', vs, n', e4, hla, hvs⟩ := list_at G hl hr
  cases e4
  have hit : s.heap.IsListIter b la i := ⟨ob, hob, hcl, hd⟩
  have lk : k < σ.length := (List.getElem?_eq_some_iff.mp hk).1
  have li : it < σ.length := (List.getElem?_eq_some_iff.mp hi).1
  have nab : a ≠ b := (G.apart hp hpit hne).1
  cases hm : l[i]? with
  | none =>
    have hx : vs.toArray[i]? = none := by
      rw [List.getElem?_toArray, List.getElem?_eq_none_iff]
      rw [← hvs.length]; exact List.getElem?_eq_none_iff.mp hm
    refine enum_end (C.hd hn) ho hit (isList_of hla) hx fun h' K => ?_
    obtain ⟨o', ho', hg'⟩ := K.2
    have ha' := K.1 a _ nab ho
    obtain ⟨G', st⟩ := G.upds [k, it] (σ' := (σ.set it .dead).set k .dead) (h' := h') (t := s.toks) (by simp) (fun j hj => by
        rw [List.getElem?_set_ne (by rintro rfl; exact hj (.head _)), List.getElem?_set_ne (by rintro rfl; exact hj (.tail _ (.head _)))])
      (fun x o e hx => K.1 x o (fun q => (hx it (.tail _ (.head _)) _ hpit).1 q.symm) e) (fun j hj p o e1 e2 => by
        rcases List.mem_cons.mp hj with rfl | hj
        · rw [hp] at e1; cases e1
          rw [List.getElem?_set_self (by simpa using lk)] at e2; cases e2
          exact ⟨.dead ⟨_, ha'⟩ ⟨_, ha'⟩, nogen_of ha' rfl⟩
        · rw [List.mem_singleton] at hj; subst hj
          rw [hpit] at e1; cases e1
          rw [List.getElem?_set_ne hne, List.getElem?_set_self li] at e2; cases e2
          exact ⟨.dead ⟨_, ho'⟩ ⟨_, ho'⟩, nogen_of ho' hg'⟩)
    exact ⟨_, g, ρ, he hm, st, G'⟩
  | some m =>
    obtain ⟨x, hx, rx⟩ := hvs.get hm
    have hx' : vs.toArray[i]? = some x := by rw [List.getElem?_toArray]; exact hx
    refine wpAny_pyNext_enum_item ho hit (isList_of hla) hx' nab fun h₁ heo hit₁ ht₁ hz₁ hk₁ => ?_
    refine wpAny_letOwnedTupleGo_enum heo fun h₂ he₂ hs₂ => ?_
    replace hs₂ : Heap.SameBut a h₁ h₂ := hs₂
    have lta : a < s.heap.objs.size := Heap.lt_size ho
    have ht₂ : h₂.get? s.heap.objs.size = some (tupObj [.int i s.toks, x] 0) := (hs₂.2 _ (Nat.ne_of_gt lta)).trans ht₁
    have hit₂ : h₂.IsListIter b la (i + 1) := by
      obtain ⟨o', ho', r'⟩ := hit₁
      exact ⟨o', (hs₂.2 _ (Ne.symm nab)).trans ho', r'⟩
    obtain ⟨o', ho', hc', hd'⟩ := id hit₂
    obtain ⟨G', st⟩ := G.upds [k, it] (σ' := (σ.set it (.sem (listIt src (i + 1)))).set k (.sem (enumIt it (i + 1)))) (h' := h₂) (t := s.toks + 1) (by simp) (fun j hj => by
        rw [List.getElem?_set_ne (by rintro rfl; exact hj (.head _)), List.getElem?_set_ne (by rintro rfl; exact hj (.tail _ (.head _)))])
      (fun y o e hy => (hs₂.2 y (fun q => (hy k (.head _) _ hp).1 q.symm)).trans (hk₁ y o (fun q => (hy k (.head _) _ hp).1 q.symm) (fun q => (hy it (.tail _ (.head _)) _ hpit).1 q.symm) e)) (fun j hj p o e1 e2 => by
        rcases List.mem_cons.mp hj with rfl | hj
        · rw [hp] at e1; cases e1
          rw [List.getElem?_set_self (by simpa using lk)] at e2; cases e2
          exact ⟨.sem ⟨rfl, _, he₂, _, _, hpit, rfl⟩, nogen_of he₂ rfl⟩
        · rw [List.mem_singleton] at hj; subst hj
          rw [hpit] at e1; cases e1
          rw [List.getElem?_set_ne hne, List.getElem?_set_self li] at e2; cases e2
          exact ⟨.sem ⟨rfl, o', ho', la, hr, hc', hd'⟩, nogen_of ho' (by rw [hc']; rfl)⟩)
    have fr : s.heap.get? s.heap.objs.size = none := Heap.get?_none_of_le (Nat.le_refl _)
    obtain ⟨G'', st'', e'', le''⟩ := G'.freeze st (fun b o e _ q => by rw [q, fr] at e; cases e) (G.fresh fr) ht₂
    exact ⟨_, _, _, ρ, hs m hm, st'', G'', .tup e'' (.cons (.int _ _) (.cons (rx.mono le'' (RLe.refl _)) .nil))⟩)
end
end
section
open PySem PySem.W PyProof.Rows
def SubL (l' l : Loc) : Prop := ∀ x m, l'.lookup x = some m → l.lookup x = some m
theorem SubL.refl (l : Loc) : SubL l l := fun _ _ e => e
theorem SubL.trans {a b c : Loc} (x : SubL a b) (y : SubL b c) : SubL a c := fun q m e => y q m (x q m e)
def locOk (k : Nat) (loc : Loc) : Bool := loc.all fun x => x.2.ok k
theorem locOk.get {k : Nat} {loc : Loc} (h : locOk k loc = true) {x : Str} {m : MV} (e : loc.lookup x = some m) : m.ok k = true :=
  List.all_eq_true.mp h (x, m) (mem_of_lookup e)

section
variable {W : Wd} {c : Cx} {g g₁ : Heap} {ρ ρ₁ : Rho} {loc loc' : Loc} {σ σ' : Hp} {s s₁ : Shared} {n : Nat} {sc : Scope}
variable {K K' : Fl → Loc → Hp → Prop} {KE KE' : Xc → Loc → Hp → Prop}

theorem Good.weaken (G : Good W c g ρ loc σ s) (h : SubL loc' loc) : Good W c g ρ loc' σ s :=
  ⟨G.base, G.gh, G.gρ, G.ρd, G.len, G.objs, G.os, G.gens, G.gq, fun x m e => G.locs x m (h x m e), G.ns, G.cel, G.kep⟩

/-- what is left of the state: fewer names, fewer handles -/
def Less (k₀ : Nat) (I : Loc → Hp → Prop) (loc : Loc) (σ : Hp) : Prop := ∃ k loc', k₀ ≤ k ∧ SubL loc' loc ∧ locOk k loc' = true ∧ (σ.take k).all (·.ok k) = true ∧ I loc' (σ.take k)

theorem Good.less {I : Loc → Hp → Prop} {k₀ : Nat} (G : Good W c g₁ ρ₁ loc' σ' s₁) (st : Step c g ρ s g₁ ρ₁ s₁) (hk : ρ.length ≤ k₀) (h : Less k₀ I loc' σ') :
    ∃ loc'' σ'' ρ'', I loc'' σ'' ∧ Step c g ρ s g₁ ρ'' s₁ ∧ Good W c g₁ ρ'' loc'' σ'' s₁ ∧ (∀ j v, j < k₀ → VRel g₁ ρ₁ (.obj j) v → VRel g₁ ρ'' (.obj j) v) := by
  obtain ⟨k, l, h1, h2, h3, h4, h5⟩ := h
  refine ⟨l, σ'.take k, ρ₁.take k, h5, st.take (Nat.le_trans hk h1), (G.weaken h2).take (fun x mv e => locOk.get h3 e) h4, fun j v hj r => ?_⟩
  exact r.take (by rw [MV.ok, decide_eq_true_eq]; omega)

/-- the loop of a for, over an iterator that is a handle -/
@[irreducible] def LoopP (W : Wd) (n : Nat) (sc : Scope) (target : Expr) (k : Nat) (body orelse : List Stmt) (loc : Loc) (σ : Hp) (K : Fl → Loc → Hp → Prop) (KE : Xc → Loc → Hp → Prop) : Prop :=
  ∀ c g ρ s v, COkS W n sc c → Good W c g ρ loc σ s → VRel g ρ (.obj k) v →
    codeAny (Mo W) c.A (.forLoop target v body orelse c.env) (fun r s' => match r with | .ok f => SPost W c g ρ s K f s' | .error e => cameBackBy (Mo W) c.A c.env (SXPost W c g ρ s KE) e s') s

theorem ex_for {target iter : Expr} {body orelse : List Stmt} {pos : Pos} (h : EvP W n sc iter loc σ (fun m σ₁ => IterP W n m σ₁ (fun k σ₂ => LoopP W n sc target k body orelse loc σ₂ K KE)) (fun x σ₁ => KE x loc σ₁))
    (hs : ∀ env x, foldedSetIterable iter env x = pure x) : ExP W n sc (.For target iter body orelse pos) loc σ K KE := by with_unfolding_all exact (fun c g ρ s C G => by
  refine wpAny_For (wpAny_mono (h c g ρ s C.toCOk G) (fun v s₁ q => ?_) fun _ _ x => x.toS) (hs _)
  obtain ⟨m, σ₁, g₁, ρ₁, k₁, st₁, G₁, r₁⟩ := q
  refine wpAny_mono (k₁ sc c g₁ ρ₁ loc s₁ v _ C.toCOk G₁ r₁) (fun it s₂ q => ?_) fun _ _ x => x
  obtain ⟨m', σ₂, g₂, ρ₂, ⟨k, rfl, hL⟩, st₂, G₂, r₂⟩ := q
  refine codeAny_mono (hL c g₂ ρ₂ s₂ it C G₂ r₂) fun r s' hr => ?_
  cases r with
  | ok f => exact SPost.after (st₁.trans st₂) hr
  | error e =>
    unfold cameBackBy at hr ⊢
    exact wpAny_mono hr (fun _ _ q => q.after (st₁.trans st₂)) fun _ _ q => q.after (st₁.trans st₂))

theorem loop_ind {target : Expr} {k : Nat} {body orelse : List Stmt} (I : Nat → Loc → Hp → Prop)
    (turn : ∀ m loc σ, I m loc σ → NxtP W n target k σ (fun mv σ₁ => AsP W n sc target mv loc σ₁ (fun loc₂ σ₂ => ExsP W n sc body loc₂ σ₂ (fun fl loc₃ σ₃ => match fl with
        | .next | .cont => ∃ m', m' < m ∧ Less (max (k + 1) σ'.length) (I m') loc₃ σ₃
        | .brk => K .next loc₃ σ₃
        | .ret v => K (.ret v) loc₃ σ₃) KE) KE) (fun σ₁ => ExsP W n sc orelse loc σ₁ K KE))
    (m : Nat) (h : I m loc σ') : LoopP W n sc target k body orelse loc σ' K KE := by with_unfolding_all exact (fun c g ρ s v C G r => by
  have err : ∀ e s', SXPost W c g ρ s KE e s' → notedBy (Mo W) c.A c.env (cameBackBy (Mo W) c.A c.env (SXPost W c g ρ s KE)) e s' := fun e s' q => q.loops C rfl
  refine codeAny_forLoop_any (fun m s' => ∃ loc₁ σ₁ g₁ ρ₁, I m loc₁ σ₁ ∧ Step c g ρ s g₁ ρ₁ s' ∧ Good W c g₁ ρ₁ loc₁ σ₁ s' ∧ VRel g₁ ρ₁ (.obj k) v) ?_ m ⟨loc, σ', g, ρ, h, .refl, G, r⟩
  rintro m s₀ ⟨loc₁, σ₁, g₁, ρ₁, hI, st₁, G₁, r₁⟩
  refine wpAny_mono (turn m loc₁ σ₁ hI sc c g₁ ρ₁ loc₁ s₀ v _ C.toCOk G₁ r₁) (fun x s₂ q => ?_) fun _ _ x => x
  cases x with
  | none =>
    obtain ⟨σ₂, g₂, ρ₂, hE, st₂, G₂⟩ := q
    refine wpAny_mono (hE c g₂ ρ₂ s₂ C G₂) (fun f s₃ q => ?_) fun e s₃ q => err e s₃ (q.after (st₁.trans st₂))
    exact SPost.after (st₁.trans st₂) q
  | some x =>
    refine wpAny_mono q (fun _ s₃ q => ?_) fun _ _ x => x
    obtain ⟨mv, σ₂, g₂, ρ₂, hA, st₂, G₂, r₂⟩ := q
    refine wpAny_mono (hA c g₂ ρ₂ s₃ x C G₂ r₂) (fun _ s₄ q => ?_) fun e s₄ q => err e s₄ (q.after (st₁.trans st₂))
    obtain ⟨loc₃, σ₃, g₃, ρ₃, hB, st₃, G₃⟩ := q
    have st13 := (st₁.trans st₂).trans st₃
    refine wpAny_mono (hB c g₃ ρ₃ s₄ C G₃) (fun f s₅ q => ?_) fun e s₅ q => err e s₅ (q.after st13)
    obtain ⟨fl, loc₄, σ₄, g₄, ρ₄, hK, st₄, G₄, fr⟩ := q
    have st14 := st13.trans st₄
    have again : (∃ m', m' < m ∧ Less (max (k + 1) σ'.length) (I m') loc₄ σ₄) → ∃ m', m' < m ∧ ∃ loc₁ σ₁ g₁ ρ₁, I m' loc₁ σ₁ ∧ Step c g ρ s g₁ ρ₁ s₅ ∧ Good W c g₁ ρ₁ loc₁ σ₁ s₅ ∧ VRel g₁ ρ₁ (.obj k) v := by
      rintro ⟨m', lt, hL⟩
      obtain ⟨l, σ'', ρ'', hI', st', G', keep⟩ := G₄.less st14 (by rw [← G.len]; exact Nat.le_max_right _ _) hL
      exact ⟨m', lt, l, σ'', g₄, ρ'', hI', st', G', keep _ _ (Nat.le_max_left _ _) (r.mono st14.ge st14.re)⟩
    cases fr with
    | next => exact again hK
    | cont => exact again hK
    | brk => exact ⟨.next, loc₄, σ₄, g₄, ρ₄, hK, st14, G₄, .next⟩
    | ret r => exact ⟨.ret _, loc₄, σ₄, g₄, ρ₄, hK, st14, G₄, .ret r⟩)


/-! targets -/
theorem as_name {x : Str} {pos : Pos} {m : MV} {K : Loc → Hp → Prop} (hs : storable (sc.names.lookup x) = true) (h : K ((x, m) :: loc) σ) : AsP W n sc (.Name x pos) m loc σ K KE := by with_unfolding_all exact (fun c g ρ s v C G r => by
  refine wpAny_assign_Name (store_ok C.toCOk G r hs (fun _ => C) fun s' G' st => ⟨_, σ, g, ρ, h, st, G'⟩))

@[irreducible] def AssP (W : Wd) (n : Nat) (sc : Scope) (ts : List Expr) (ms : List MV) (loc : Loc) (σ : Hp) (K : Loc → Hp → Prop) (KE : Xc → Loc → Hp → Prop) : Prop :=
  ∀ c g ρ s vs, COkS W n sc c → Good W c g ρ loc σ s → VRels g ρ ms vs → wpAny (Mo W) c.A (assignInOrder ((assignEach ts c.env).map (·.2)) vs) (UPost W c g ρ s K) (SXPost W c g ρ s KE) s
theorem ass_nil {K : Loc → Hp → Prop} (h : K loc σ) : AssP W n sc [] [] loc σ K KE := by with_unfolding_all exact (fun c g ρ s vs C G r => by
  cases r; exact wpAny_pure ⟨loc, σ, g, ρ, h, .refl, G⟩)
theorem ass_cons {t : Expr} {ts : List Expr} {m : MV} {ms : List MV} {K : Loc → Hp → Prop} (h : AsP W n sc t m loc σ (fun loc₁ σ₁ => AssP W n sc ts ms loc₁ σ₁ K KE) KE)
    (he : ∀ env, assignEach (t :: ts) env = (false, assign t env) :: assignEach ts env) : AssP W n sc (t :: ts) (m :: ms) loc σ K KE := by with_unfolding_all exact (fun c g ρ s vs C G r => by
  cases r with
  | cons r rs =>
    rename_i v vs
    rw [he]
    show wpAny _ _ (do holding vs (assign t c.env v); assignInOrder ((assignEach ts c.env).map (·.2)) vs) _ _ _
    refine wpAny_bind (wpAny_holding (wpAny_mono (h c g ρ s v C G r) (fun _ s₁ q => ?_) fun _ _ x => x))
    obtain ⟨l₁, σ₁, g₁, ρ₁, k₁, st₁, G₁⟩ := q
    exact wp_afterU st₁ (k₁ c g₁ ρ₁ s₁ vs C G₁ (rs.mono st₁.ge st₁.re)))

theorem as_tuple {ts : List Expr} {x1} {pos : Pos} {ms : List MV} {K : Loc → Hp → Prop} (hn : n < 1000) (hl : ts.length = ms.length) (he : ∀ env, (assignEach ts env).length = ts.length ∧ (assignEach ts env).findIdx? (·.1) = none)
    (h : AssP W n sc ts ms loc σ K KE) : AsP W n sc (.Tuple ts x1 pos) (.tup ms) loc σ K KE := by with_unfolding_all exact (fun c g ρ s v C G r => by
  obtain ⟨a, vs, n', rfl, ha, hvs⟩ := tup_at G r
  have fr : s.heap.get? s.heap.objs.size = none := Heap.get?_none_of_le (Nat.le_refl _)
  refine wpAny_assign_Tuple (C.hd hn) (isTuple_of ha) (by rw [(he _).1, hl, hvs.length, List.size_toArray]) (he _).2 fun h' hx => ?_
  have G' : Good W c g ρ loc σ { s with heap := h' } := G.move (fun b o e _ => hx b o (fun q => by rw [q, fr] at e; cases e) e) rfl rfl
  have st : Step c g ρ s g ρ { s with heap := h' } := ⟨StaysIn.refl _, RLe.refl _, fun b o e P => ⟨hx b o (fun q => by rw [q, fr] at e; cases e) e, P⟩⟩
  exact wp_afterU st (h c g ρ _ vs C G' hvs))

/-! setItem, setAttr -/
@[irreducible] def St3 (W : Wd) (n : Nat) (f : Value → Value → Value → Sem Unit) (m₁ m₂ m₃ : MV) (σ : Hp) (K : Hp → Prop) (KE : Xc → Hp → Prop) : Prop :=
  ∀ sc c g ρ loc s v₁ v₂ v₃, COk W n sc c → Good W c g ρ loc σ s → VRel g ρ m₁ v₁ → VRel g ρ m₂ v₂ → VRel g ρ m₃ v₃ → wpAny (Mo W) c.A (f v₁ v₂ v₃) (PostA W c g ρ loc s (fun _ σ' => K σ')) (XPost W c g ρ loc s KE) s
@[irreducible] def St2 (W : Wd) (n : Nat) (f : Value → Value → Sem Unit) (m₁ m₂ : MV) (σ : Hp) (K : Hp → Prop) (KE : Xc → Hp → Prop) : Prop :=
  ∀ sc c g ρ loc s v₁ v₂, COk W n sc c → Good W c g ρ loc σ s → VRel g ρ m₁ v₁ → VRel g ρ m₂ v₂ → wpAny (Mo W) c.A (f v₁ v₂) (PostA W c g ρ loc s (fun _ σ' => K σ')) (XPost W c g ρ loc s KE) s
theorem PostA.toU {α : Type} {K : Loc → Hp → Prop} {a : α} {s' : Shared} (h : PostA W c g ρ loc s (fun (_ : α) σ' => K loc σ') a s') {u : Unit} : UPost W c g ρ s K u s' := by
  obtain ⟨σ', g', ρ', k, st, G⟩ := h
  exact ⟨loc, σ', g', ρ', k, st, G⟩

theorem wpAny_released {A : Around} {vs ws : List Value} {Q : Unit → Shared → Prop} {E : Value → Shared → Prop} (h : Q () s) : wpAny (Mo W) A (release vs ws) Q E s := fun Γ p hΓ => by
  rw [Sem.wp_release]; exact h

theorem as_sub {o i : Expr} {pos : Pos} {m : MV} {K : Loc → Hp → Prop} (h : EvP W n sc o loc σ (fun mo σ₁ => EvP W n sc i loc σ₁ (fun mi σ₂ => St3 W n setItem mo mi m σ₂ (fun σ₃ => K loc σ₃) (fun x σ' => KE x loc σ')) (fun x σ' => KE x loc σ')) (fun x σ' => KE x loc σ')) :
    AsP W n sc (.Subscript o i pos) m loc σ K KE := by with_unfolding_all exact (fun c g ρ s v C G r => by
  show wpAny _ _ (do
    let ov ← holding [v] (eval o c.env)
    let iv ← holding [v, ov] (eval i c.env)
    standAt pos
    holding [v, ov, iv] (setItem ov iv v)
    release (match (generalizing := false) i with | .Slice _ _ none _ => [iv, v, ov] | _ => [v, ov, iv]) []) _ _ s
  refine wpAny_bind (wpAny_holding (wpAny_mono (h c g ρ s C.toCOk G) (fun ov s₁ q => ?_) fun _ _ x => x.toS))
  obtain ⟨mo, σ₁, g₁, ρ₁, k₁, st₁, G₁, r₁⟩ := q
  refine wpAny_bind (wpAny_holding (wpAny_mono (k₁ c g₁ ρ₁ s₁ C.toCOk G₁) (fun iv s₂ q => ?_) fun _ _ x => (x.after st₁).toS))
  obtain ⟨mi, σ₂, g₂, ρ₂, k₂, st₂, G₂, r₂⟩ := q
  have st := st₁.trans st₂
  refine wpAny_bind (wpAny_standAt (wpAny_bind (wpAny_holding (wpAny_mono (k₂ sc c g₂ ρ₂ loc s₂ ov iv v C.toCOk G₂ (r₁.mono st₂.ge st₂.re) r₂ (r.mono st.ge st.re)) (fun _ s₃ q => ?_) fun _ _ x => (x.after st).toS))))
  exact wpAny_released ((q.after st).toU))
theorem as_attr {o : Expr} {name : Str} {pos : Pos} {m : MV} {K : Loc → Hp → Prop} (h : EvP W n sc o loc σ (fun mo σ₁ => St2 W n (fun ov v => setAttr ov name v) mo m σ₁ (fun σ₃ => K loc σ₃) (fun x σ' => KE x loc σ')) (fun x σ' => KE x loc σ')) :
    AsP W n sc (.Attribute o name pos) m loc σ K KE := by with_unfolding_all exact (fun c g ρ s v C G r => by
  show wpAny _ _ (do
    let ov ← holding [v] (eval o c.env)
    standAt pos.atName
    holding [v, ov] (setAttr ov name v)
    release [v, ov] []) _ _ s
  refine wpAny_bind (wpAny_holding (wpAny_mono (h c g ρ s C.toCOk G) (fun ov s₁ q => ?_) fun _ _ x => x.toS))
  obtain ⟨mo, σ₁, g₁, ρ₁, k₁, st₁, G₁, r₁⟩ := q
  refine wpAny_bind (wpAny_standAt (wpAny_bind (wpAny_holding (wpAny_mono (k₁ sc c g₁ ρ₁ loc s₁ ov v C.toCOk G₁ r₁ (r.mono st₁.ge st₁.re)) (fun _ s₃ q => ?_) fun _ _ x => (x.after st₁).toS))))
  exact wpAny_released ((q.after st₁).toU))

theorem ex_assign {t value : Expr} {pos : Pos} (h : EvP W n sc value loc σ (fun m σ₁ => AsP W n sc t m loc σ₁ (fun loc₂ σ₂ => K .next loc₂ σ₂) KE) (fun x σ' => KE x loc σ'))
    (hsw : ∀ env : Env, env.scope = sc → swapsWithSole [t] value pos.line env = pure false) (hst : ∀ env : Env, env.scope = sc → swappedStores [t] value env = pure none)
    (he : ∀ env, assignEach [t] env = [(false, assign t env)]) : ExP W n sc (.Assign [t] value pos) loc σ K KE := by with_unfolding_all exact (fun c g ρ s C G => by
  show wpAny _ _ (do
    standAt pos
    if ← swapsWithSole [t] value pos.line c.env then do
      evalThenUse value c.env fun v => assignAll v ((assignEach [t] c.env).map (·.2))
      (pure Flow.next : Sem Flow)
    else do
      let v ← eval value c.env
      assignStores c.env v (← swappedStores [t] value c.env) ((assignEach [t] c.env).map (·.2))) _ _ s
  rw [hsw _ C.scE, hst _ C.scE, he]
  refine wpAny_bind (wpAny_standAt (wpAny_bind (wpAny_pure ?_)))
  refine wpAny_bind (wpAny_mono (h c g ρ s C.toCOk G) (fun v s₁ q => ?_) fun _ _ x => x.toS)
  obtain ⟨m, σ₁, g₁, ρ₁, k₁, st₁, G₁, r₁⟩ := q
  refine wpAny_bind (wpAny_pure ?_)
  show wpAny _ _ (do assign t c.env v; (pure Flow.next : Sem Flow)) _ _ _
  refine wpAny_bind (wpAny_mono (k₁ c g₁ ρ₁ s₁ v C G₁ r₁) (fun _ s₂ q => wpAny_pure ?_) fun _ _ x => x.after st₁)
  obtain ⟨l₂, σ₂, g₂, ρ₂, k₂, st₂, G₂⟩ := q
  exact ⟨.next, l₂, σ₂, g₂, ρ₂, k₂, st₁.trans st₂, G₂, .next⟩)
end
end
section
open PySem PySem.W PyProof.Rows
def compNames (sc : Scope) (names : List (Str × NameKind)) : List (Str × NameKind) :=
  names.map fun (n, k) => if (k == .free && sc.kind == .function && sc.names.lookup n == some .cell) then (n, .cell) else (n, k)
def compScope (sc scope : Scope) : Scope := { scope with names := compNames sc scope.names }

/-- which cells a comprehension takes along -/
def clFold (cells : List (Str × Addr)) : List (Str × NameKind) → List (Str × Addr) → List (Str × Addr)
  | [], acc => acc
  | (n, k) :: r, acc => clFold cells r (if k == .free then (n, (cells.lookup n).getD 0) :: acc else acc)

def compOk (sc scope : Scope) : Bool := (scope.kind == .function) && (scope.names.all fun x => x.2 != .cell && (x.2 != .free || sc.names.lookup x.1 == some .cell)) && decide ((scope.names.map (·.1)).Nodup)

theorem closure_ok {sc scope : Scope} {env : Env} (hsc : env.scope = sc) (hok : compOk sc scope = true) (hx : ∀ x, sc.names.lookup x = some .cell → ∃ a, env.cells.lookup x = some a) : closureFor scope env = pure (clFold env.cells scope.names []) := by
  unfold compOk at hok
  simp only [Bool.and_eq_true, List.all_eq_true, decide_eq_true_eq] at hok
  obtain ⟨⟨_, hall⟩, _⟩ := hok
  have key : ∀ (names : List (Str × NameKind)) (acc : List (Str × Addr)), (∀ x ∈ names, x.2 = .free → ∃ a, env.cells.lookup x.1 = some a) →
      (forIn names acc fun (x : Str × NameKind) (r : List (Str × Addr)) => (do
        let (name, kind) := x
        let mut cs := r
        if kind == .free then cs := (name, ← cellOf env name) :: cs
        pure (ForInStep.yield cs) : Sem (ForInStep (List (Str × Addr))))) = pure (clFold env.cells names acc) := by
    intro names
    induction names with
    | nil => intro acc _; rfl
    | cons x r ih =>
      intro acc h
      obtain ⟨n, k⟩ := x
      rw [List.forIn_cons]
      by_cases hk : (k == NameKind.free) = true
      · obtain ⟨a, ha⟩ := h (n, k) List.mem_cons_self (by simpa using hk)
        have hc : cellOf env n = pure a := by unfold cellOf; rw [ha]
        simp only [hk, if_true, hc, pure_bind]
        rw [ih _ fun y hy => h y (List.mem_cons_of_mem _ hy)]
        simp only [clFold, hk, if_true, ha, Option.getD_some]
      · simp only [hk, Bool.false_eq_true, if_false, pure_bind]
        rw [ih _ fun y hy => h y (List.mem_cons_of_mem _ hy)]
        simp only [clFold, hk, Bool.false_eq_true, if_false]
  unfold closureFor
  have := key scope.names [] fun x hx' hf => by
    have := hall x hx'
    rw [Bool.or_eq_true] at this
    rcases this.2 with h | h
    · rw [hf] at h; simp at h
    · exact hx x.1 (by simpa using h)
  show (forIn scope.names [] _ >>= fun cs => pure cs) = _
  refine (congrArg (· >>= fun cs => pure cs) ?_).trans (pure_bind (m := Sem) _ _)
  exact this

theorem clFold_mem {cells : List (Str × Addr)} : ∀ (names : List (Str × NameKind)) (acc : List (Str × Addr)), (∀ x ∈ names, x.2 = .free → ∃ a, cells.lookup x.1 = some a) →
    ∀ x ∈ clFold cells names acc, x ∈ acc ∨ (x ∈ cells ∧ (x.1, NameKind.free) ∈ names)
  | [], acc, _, x, hx => .inl hx
  | (n, k) :: r, acc, h, x, hx => by
    unfold clFold at hx
    rcases clFold_mem r _ (fun y hy => h y (List.mem_cons_of_mem _ hy)) x hx with q | ⟨q1, q2⟩
    · by_cases hk : (k == NameKind.free) = true
      · rw [if_pos hk] at q
        rcases List.mem_cons.mp q with rfl | q
        · obtain ⟨a, ha⟩ := h (n, k) List.mem_cons_self (by simpa using hk)
          refine .inr ⟨?_, ?_⟩
          · rw [ha]; exact mem_of_lookup ha
          · rw [show k = NameKind.free from by simpa using hk]; exact List.mem_cons_self
        · exact .inl q
      · rw [if_neg hk] at q; exact .inl q
    · exact .inr ⟨q1, List.mem_cons_of_mem _ q2⟩

theorem clFold_look {cells : List (Str × Addr)} : ∀ (names : List (Str × NameKind)) (acc : List (Str × Addr)), (∀ x ∈ names, x.2 = .free → ∃ a, cells.lookup x.1 = some a) → (names.map (·.1)).Nodup →
    ∀ x, (x ∉ names.map (·.1) → (clFold cells names acc).lookup x = acc.lookup x) ∧ ((x, NameKind.free) ∈ names → (clFold cells names acc).lookup x = cells.lookup x)
  | [], acc, _, _, x => ⟨fun _ => rfl, fun h => by simp at h⟩
  | (n, k) :: r, acc, h, hn, x => by
    rw [List.map_cons, List.nodup_cons] at hn
    have ih := clFold_look r (if k == .free then (n, (cells.lookup n).getD 0) :: acc else acc) (fun y hy => h y (List.mem_cons_of_mem _ hy)) hn.2 x
    unfold clFold
    refine ⟨fun hx => ?_, fun hx => ?_⟩
    · rw [List.map_cons, List.mem_cons, not_or] at hx
      rw [ih.1 hx.2]
      by_cases hk : (k == NameKind.free) = true
      · rw [if_pos hk, List.lookup_cons, show (x == n) = false from by simpa using hx.1]
      · rw [if_neg hk]
    · rcases List.mem_cons.mp hx with e | e
      · cases e
        rw [ih.1 hn.1, if_pos (by rfl), List.lookup_cons, beq_self_eq_true]
        obtain ⟨a, ha⟩ := h _ List.mem_cons_self rfl
        rw [ha]; rfl
      · exact ih.2 e

theorem compNames_look {sc : Scope} : ∀ (names : List (Str × NameKind)) (x : Str), (∀ y ∈ names, y.2 ≠ .cell) → (compNames sc names).lookup x = some .cell → (x, NameKind.free) ∈ names ∧ sc.names.lookup x = some .cell
  | [], x, _, h => by simp [compNames] at h
  | (n, k) :: r, x, hc, h => by
    have ih := compNames_look (sc := sc) r x (fun y hy => hc y (List.mem_cons_of_mem _ hy))
    unfold compNames at h ih
    rw [List.map_cons] at h
    by_cases hq : (k == .free && sc.kind == .function && sc.names.lookup n == some .cell) = true
    · simp only [hq, if_true] at h
      rw [List.lookup_cons] at h
      split at h
      · rename_i e
        have e' : x = n := by simpa using e
        subst e'
        simp only [Bool.and_eq_true] at hq
        exact ⟨by rw [show k = NameKind.free from by simpa using hq.1.1]; exact List.mem_cons_self, by simpa using hq.2⟩
      · obtain ⟨a, b⟩ := ih h
        exact ⟨List.mem_cons_of_mem _ a, b⟩
    · simp only [hq, Bool.false_eq_true, if_false] at h
      rw [List.lookup_cons] at h
      split at h
      · cases h; exact absurd rfl (hc (n, .cell) List.mem_cons_self)
      · obtain ⟨a, b⟩ := ih h
        exact ⟨List.mem_cons_of_mem _ a, b⟩

theorem VRel.obj_inv {g : Heap} {ρ : Rho} {k : Nat} {a : Addr} (r : VRel g ρ (.obj k) (.ref a)) : ∃ p, ρ[k]? = some p ∧ p.1 = a := by
  generalize hv : Value.ref a = v at r
  generalize hm : MV.obj k = m at r
  cases r <;> cases hm
  rename_i h
  cases hv
  exact ⟨_, h, rfl⟩

section
variable {W : Wd} {c : Cx} {g g₁ : Heap} {ρ ρ₁ : Rho} {loc loc' : Loc} {σ σ' : Hp} {s s₁ : Shared} {n : Nat} {sc scope : Scope}
variable {K : MV → Hp → Prop} {KE : Xc → Hp → Prop}

def compCx (c : Cx) (scope : Scope) (h : Heap) (C : Addr) : Cx := { A := c.A, env := compEnvC scope (clFold c.env.cells scope.names []) C c.env, stack := c.stack, kept := keptOf h c.env c.kept }

theorem compOk.free (hok : compOk sc scope = true) (C : COk W n sc c) : ∀ x ∈ scope.names, x.2 = .free → ∃ a, c.env.cells.lookup x.1 = some a := fun x hx hf => by
  unfold compOk at hok
  simp only [Bool.and_eq_true, List.all_eq_true, decide_eq_true_eq] at hok
  have := hok.1.2 x hx
  rw [Bool.or_eq_true] at this
  rcases this.2 with h | h
  · rw [hf] at h; simp at h
  · exact C.cellx x.1 (by simpa using h)
theorem compOk.noCell (hok : compOk sc scope = true) : ∀ x ∈ scope.names, x.2 ≠ .cell := fun x hx => by
  unfold compOk at hok
  simp only [Bool.and_eq_true, List.all_eq_true, decide_eq_true_eq] at hok
  simpa using (hok.1.2 x hx).1
theorem compOk.nodup (hok : compOk sc scope = true) : (scope.names.map (·.1)).Nodup := by
  unfold compOk at hok
  simp only [Bool.and_eq_true, List.all_eq_true, decide_eq_true_eq] at hok
  exact hok.2
theorem compOk.kind (hok : compOk sc scope = true) : scope.kind = .function := by
  unfold compOk at hok
  simp only [Bool.and_eq_true, List.all_eq_true, decide_eq_true_eq] at hok
  simpa using hok.1.1

theorem clMem (hok : compOk sc scope = true) (C : COk W n sc c) {x : Str × Addr} (hx : x ∈ clFold c.env.cells scope.names []) : x ∈ c.env.cells := by
  rcases clFold_mem _ _ (compOk.free hok C) x hx with h | ⟨h, _⟩
  · cases h
  · exact h

theorem COk.comp (C : COk W n sc c) (G : Good W c g ρ loc σ s) (hok : compOk sc scope = true) {Ca : Addr} (hC : s.heap.get? Ca = none) : COk W n (compScope sc scope) (compCx c scope s.heap Ca) := by
  have kne : ∀ q ∈ keptOf s.heap c.env c.kept, q.1 ≠ Ca := fun q hq e => by
    obtain ⟨⟨o, ho, _⟩, _⟩ := G.keptOk q hq
    rw [e, hC] at ho; cases ho
  refine ⟨?_, (show scope.kind = _ from compOk.kind hok), C.glob, C.blt, C.hd, C.dep, C.un, C.fr, C.top, fun x hx e => ?_, fun e he => ?_, kne, fun x hx => ?_⟩
  · show relabel scope c.env = _
    rw [← C.scE]; rfl
  · obtain ⟨⟨v, o, ho, _⟩, _⟩ := G.cel x (clMem hok C hx)
    have e' : x.2 = Ca := e
    rw [e', hC] at ho; cases ho
  · obtain ⟨hm, L, hL, hq⟩ := C.stk e he
    refine ⟨hm, L, hL, .inr ?_⟩
    rcases hq with rfl | ⟨d, hd⟩
    · exact ⟨_, List.mem_append_left _ (.head _)⟩
    · exact ⟨d, List.mem_append_right _ hd⟩
  · obtain ⟨h1, h2⟩ := compNames_look scope.names x (compOk.noCell hok) hx
    show ∃ a, (clFold c.env.cells scope.names []).lookup x = some a
    rw [(clFold_look scope.names [] (compOk.free hok C) (compOk.nodup hok) x).2 h1]
    exact C.cellx x h2

/-- the names that a comprehension sees of the frame around it -/
def CapL (sc scope : Scope) (loc' loc : Loc) : Prop := ∀ x m, loc'.lookup x = some m → loc.lookup x = some m ∧ (compNames sc scope.names).lookup x = some .cell

theorem Good.comp (C : COk W n sc c) (G : Good W c g ρ loc σ s) (hok : compOk sc scope = true) {Ca : Addr} (hC : s.heap.get? Ca = none) {h' : Heap} {t : Nat} (hns : ∃ m, h'.Ns Ca m) (hk : ∀ b o, s.heap.get? b = some o → h'.get? b = some o)
    (hcap : CapL sc scope loc' loc) : Good W (compCx c scope s.heap Ca) g ρ loc' σ { s with heap := h', toks := t } := by
  have P := G.fresh hC
  refine ⟨G.base, fun b o e => hk b o (G.gh b o e), G.gρ, G.ρd, G.len, fun i p o e1 e2 => ?_, G.os, G.gens, G.gqOf (fun p hp => by obtain ⟨o1, q1⟩ := (G.rho hp).1; exact (hk _ _ q1).trans q1.symm), fun y mv hy => ?_, ⟨hns, P.g, P.r⟩, fun y hy => ?_, fun q hq => ?_⟩
  · have z := G.objs i p o e1 e2
    obtain ⟨⟨o1, q1⟩, ⟨o2, q2⟩⟩ := z.there
    exact z.mono (StaysIn.refl _) (RLe.refl _) ((hk _ _ q1).trans q1.symm) ((hk _ _ q2).trans q2.symm) (fun _ _ => rfl)
  · obtain ⟨hl, hkd⟩ := hcap y mv hy
    obtain ⟨v, H, r⟩ := G.locs y mv hl
    refine ⟨v, ?_, r⟩
    obtain ⟨h1, h2⟩ := compNames_look scope.names y (compOk.noCell hok) hkd
    unfold VHolds at H ⊢
    rw [show c.env.kindOf y = some .cell from by unfold Env.kindOf; rw [C.scE]; exact h2] at H
    obtain ⟨a, ha, o, ho, hd⟩ := H
    rw [show (compCx c scope s.heap Ca).env.kindOf y = some .cell from by
      show (relabel scope c.env).names.lookup y = _
      rw [show relabel scope c.env = compScope sc scope from by rw [← C.scE]; rfl]; exact hkd]
    refine ⟨a, ?_, o, hk _ _ ho, hd⟩
    show (clFold c.env.cells scope.names []).lookup y = _
    rw [(clFold_look scope.names [] (compOk.free hok C) (compOk.nodup hok) y).2 h1, ha]
  · obtain ⟨⟨v, o, ho, hd⟩, z⟩ := G.cel y (clMem hok C hy)
    exact ⟨⟨v, o, hk _ _ ho, hd⟩, z⟩
  · obtain ⟨⟨o, ho, r⟩, z⟩ := G.keptOk q hq
    exact ⟨⟨o, hk _ _ ho, r⟩, z⟩

theorem Good.compDone (C : COk W n sc c) (G : Good W c g ρ loc σ s) (hok : compOk sc scope = true) {Ca : Addr} (hC : s.heap.get? Ca = none) {s₄ s₅ : Shared} (hk : ∀ b o, s.heap.get? b = some o → s₄.heap.get? b = some o) {l : Loc}
    (st : Step (compCx c scope s.heap Ca) g ρ s₄ g₁ ρ₁ s₅) (G' : Good W (compCx c scope s.heap Ca) g₁ ρ₁ l σ' s₅) {h' : Heap} (hs : Heap.SameBut Ca s₅.heap h') :
    Good W c g₁ ρ₁ loc σ' { s₅ with heap := h' } ∧ Step c g ρ s g₁ ρ₁ { s₅ with heap := h' } := by
  have P := G.fresh hC
  have G₅ := G.leave (c' := compCx c scope s.heap Ca) rfl st G'
  have PC : Priv c g₁ ρ₁ Ca := ⟨G'.ns.2.1, G'.ns.2.2, P.l, P.cl, P.k⟩
  refine ⟨G₅.move (fun b o e np => (hs.2 b (fun q => np (q ▸ PC))).trans e) rfl rfl, ⟨st.ge, st.re, fun b o e Pb => ?_⟩⟩
  have nC : b ≠ Ca := fun q => by rw [q, hC] at e; cases e
  have Pb' : Priv (compCx c scope s.heap Ca) g ρ b := ⟨Pb.g, Pb.r, Ne.symm nC, fun x hx => Pb.cl x (clMem hok C hx), fun q hq => by
    unfold compCx keptOf at hq
    rcases List.mem_append.mp hq with hq | hq
    · rcases List.mem_cons.mp hq with rfl | hq
      · exact Pb.l
      · obtain ⟨y, hy, rfl⟩ := List.mem_map.mp hq
        exact Pb.cl y hy
    · exact Pb.k q hq⟩
  obtain ⟨e5, P5⟩ := st.ke b o (hk b o e) Pb'
  exact ⟨(hs.2 b nC).trans e5, P5.g, P5.r, Pb.l, Pb.cl, Pb.k⟩

/-- the loop of a comprehension -/
@[irreducible] def CompP (W : Wd) (n : Nat) (sc' : Scope) (e : Expr) (k d : Nat) (loc' : Loc) (σ : Hp) (K : Hp → Prop) : Prop :=
  ∀ c g ρ s v va, COk W n sc' c → Good W c g ρ loc' σ s → VRel g ρ (.obj k) v → VRel g ρ (.obj d) va → codeAny (Mo W) c.A (.compLoop e 0 v va c.env) (fun r s' => ∃ f, r = .ok f ∧ UPost W c g ρ s (fun _ σ' => K σ') () s') s

theorem lookup_nodup {x : Str} {k : NameKind} : ∀ {l : List (Str × NameKind)}, (l.map (·.1)).Nodup → (x, k) ∈ l → l.lookup x = some k
  | (y, k') :: l, hn, h => by
    rw [List.map_cons, List.nodup_cons] at hn
    rcases List.mem_cons.mp h with e | e
    · cases e; rw [List.lookup_cons, beq_self_eq_true]
    · have : (x == y) = false := by
        simp only [beq_eq_false_iff_ne, ne_eq]
        rintro rfl
        exact hn.1 (List.mem_map.mpr ⟨_, e, rfl⟩)
      rw [List.lookup_cons, this]; exact lookup_nodup hn.2 e

theorem ev_listcomp {elt target iter : Expr} {ifs : List Expr} {pos : Pos} (hok : compOk sc scope = true) (hcap : CapL sc scope loc' loc) (hs : ∀ env x, foldedSetIterable iter env x = pure x)
    (h : EvP W n sc iter loc σ (fun m σ₁ => IterP W n m σ₁ (fun k σ₂ => (∃ x, σ₂[k]? = some x) ∧ IterP W n (.obj k) (σ₂ ++ [.list []]) (fun k' σ' => k' = k ∧ σ' = σ₂ ++ [.list []]) ∧ CompP W n (compScope sc scope) (.ListComp elt [⟨target, iter, ifs, 0⟩] scope pos) k σ₂.length loc' (σ₂ ++ [.list []]) (fun σ₄ =>
      ∃ items, σ₄[σ₂.length]? = some (.list items) ∧ (σ₄.take σ₁.length).all (·.ok σ₁.length) = true ∧ oksL σ₁.length items = true ∧ σ₁.length ≤ σ₂.length ∧ K (.lst items) (σ₄.take σ₁.length)))) KE) :
    EvP W n sc (.ListComp elt [⟨target, iter, ifs, 0⟩] scope pos) loc σ K KE := by with_unfolding_all exact (fun c g ρ s C G => by
  rw [eval_ListComp]
  refine wpAny_comprehension_free (use := none) rfl (hs _) (closure_ok C.scE hok C.cellx) (compOk.kind hok) (fun x hx hl => lookup_nodup (compOk.nodup hok) (by rw [← hl]; exact hx)) (wpAny_mono (h c g ρ s C G) (fun v s₁ q => ?_) fun _ _ x => x)
  obtain ⟨m, σ₁, g₁, ρ₁, k₁, st₁, G₁, r₁⟩ := q
  refine wpAny_mono (k₁ sc c g₁ ρ₁ loc s₁ v _ C G₁ r₁) (fun it s₂ q => ?_) fun _ _ x => x
  obtain ⟨m', σ₂, g₂, ρ₂, ⟨k, rfl, ⟨xk, hxk⟩, hI, hL⟩, st₂, G₂, r₂⟩ := q
  unfold newList
  have fr2 : s₂.heap.get? s₂.heap.objs.size = none := Heap.get?_none_of_le (Nat.le_refl _)
  obtain ⟨G₃, st₃⟩ := G₂.allocM (o := { cls := .type "list", data := .seq #[] }) (mo := .list []) rfl (t := s₂.toks) (fun h' e _ => ORel.list (vs := []) e .nil) rfl
  refine wpAny_newObj_type ?_ (Nat.zero_le _)
  have hd3 : (ρ₂ ++ [(s₂.heap.objs.size, s₂.heap.objs.size)])[σ₂.length]? = some (s₂.heap.objs.size, s₂.heap.objs.size) := by rw [G₂.len]; simp
  generalize hs3 : ({ s₂ with heap := s₂.heap.push { cls := .type "list", data := .seq #[] }, toks := s₂.toks } : Shared) = s₃ at G₃ st₃
  generalize hρ3 : ρ₂ ++ [(s₂.heap.objs.size, s₂.heap.objs.size)] = ρ₃ at G₃ st₃ hd3
  have rd : VRel g₂ ρ₃ (.obj σ₂.length) (.ref s₂.heap.objs.size) := .obj hd3
  have frC : s₃.heap.get? s₃.heap.objs.size = none := Heap.get?_none_of_le (Nat.le_refl _)
  refine wpAny_newFunctionEnv (compOk.noCell hok) (by intro y hy; simp at hy) (fun h₄ hns hsb => ?_) (compOk.kind hok)
  have keep4 : ∀ b o, s₃.heap.get? b = some o → h₄.get? b = some o := fun b o e => by
    have nb : b ≠ s₃.heap.objs.size := fun q => by rw [q, frC] at e; cases e
    exact (hsb.2 b nb).trans (Heap.get?_push_of_some _ e)
  have C' := C.comp G₃ hok frC
  have G₄ := G₃.comp (h' := h₄) (t := s₃.toks + ([] : List (Str × Value)).length) C hok frC ⟨_, hns⟩ keep4 hcap
  have r3 := r₂.mono st₃.ge st₃.re
  have fin : ∀ s₄' g₄' ρ₄' v', Step (compCx c scope s₃.heap s₃.heap.objs.size) g₂ ρ₃ { s₃ with heap := h₄, toks := s₃.toks + ([] : List (Str × Value)).length } g₄' ρ₄' s₄' → Good W (compCx c scope s₃.heap s₃.heap.objs.size) g₄' ρ₄' loc' (σ₂ ++ [.list []]) s₄' → VRel g₄' ρ₄' (.obj k) v' →
      codeAny (Mo W) c.A (.compLoop (.ListComp elt [⟨target, iter, ifs, 0⟩] scope pos) 0 v' (.ref s₂.heap.objs.size) (compCx c scope s₃.heap s₃.heap.objs.size).env)
        (compPost (Mo W) c.A (XPost W c g ρ loc s KE) none (Post W c g ρ loc s K) (.ref s₂.heap.objs.size) s₃.heap.objs.size) s₄' := by
    intro s₄' g₄' ρ₄' v' st4 G4 r4
    refine codeAny_mono (hL (compCx c scope s₃.heap s₃.heap.objs.size) g₄' ρ₄' s₄' v' _ C' G4 r4 (rd.mono st4.ge st4.re)) fun r s₅ hr => ?_
    obtain ⟨f, rfl, l₅, σ₅, g₅, ρ₅, ⟨items, hit, hok1, hok2, hle, hK⟩, st₅, G₅⟩ := hr
    obtain ⟨mC, hmC⟩ := G₅.ns.1
    refine ⟨mC, hmC, fun h₆ hs₆ => ?_⟩
    obtain ⟨G₆, st₆⟩ := G₃.compDone C hok frC keep4 (st4.trans st₅) G₅ (h' := h₆) hs₆
    have st26 := st₃.trans st₆
    have hl1 : σ₁.length = ρ₁.length := G₁.len
    have hk2 : ρ₁.length ≤ σ₁.length := by omega
    -- the accumulator leaves the handles and is frozen
    have rd6 : VRel g₅ ρ₅ (.obj σ₂.length) (.ref s₂.heap.objs.size) := rd.mono (st4.trans st₅).ge (st4.trans st₅).re
    obtain ⟨⟨a, a2⟩, hpd, epd⟩ := rd6.obj_inv
    have epd : a = s₂.heap.objs.size := epd
    subst epd
    have zz := G₆.objs _ _ _ hpd hit
    obtain ⟨vs, n', ea, hvs⟩ : ∃ vs n', h₆.get? s₂.heap.objs.size = some (lstObj vs n') ∧ VRels g₅ ρ₅ items vs := by
      cases zz with
      | list e hv => exact ⟨_, _, e, hv⟩
    have G₇ := G₆.take (k := σ₁.length) (fun x mv e => G₁.locOk hk2 x mv e) hok1
    have st₇ := (st₂.trans st26).take (k := σ₁.length) hk2
    have nin : ∀ p ∈ ρ₅.take σ₁.length, p.1 ≠ s₂.heap.objs.size ∧ p.2 ≠ s₂.heap.objs.size := fun p hp => by
      obtain ⟨j, hj, ej⟩ := List.mem_iff_getElem.mp hp
      have hj' : j < σ₁.length := by rw [List.length_take] at hj; omega
      have ej' : ρ₅[j]? = some p := by rw [← ej, List.getElem_take, List.getElem?_eq_getElem]
      have := G₆.apart ej' hpd (by omega)
      exact ⟨this.1, this.2.2.1⟩
    have Pa : Priv c g₅ (ρ₅.take σ₁.length) s₂.heap.objs.size := by
      have hm := List.mem_of_getElem? hpd
      have P2 := G₂.fresh fr2
      exact ⟨(G₆.gρ _ hm).1, nin, P2.l, P2.cl, P2.k⟩
    obtain ⟨G₈, st₈, e₈, le₈⟩ := G₇.freeze st₇ (fun b o e P q => by
      have := (st₂.ke b o e P).1
      rw [q, fr2] at this; cases this) Pa ea
    exact ⟨.lst items, σ₅.take σ₁.length, _, _, hK, st₁.trans st₈, G₈, .lst e₈ ((hvs.take hok2).mono le₈ (RLe.refl _))⟩
  refine codeAny_compStart_list (fin _ g₂ ρ₃ it .refl G₄ r3) ?_
  refine wpAny_mono (hI (compScope sc scope) (compCx c scope s₃.heap s₃.heap.objs.size) g₂ ρ₃ loc' _ it _ C' G₄ r3) (fun it' s₄' q => ?_) fun _ _ x => x
  obtain ⟨m'', σ4, g₄', ρ₄', ⟨k', rfl, rfl, rfl⟩, st4, G4, r4⟩ := q
  exact fin s₄' g₄' ρ₄' it' st4 G4 r4)
end
end
section
open PySem PySem.W PyProof.Rows
def NE : Xc → Hp → Prop := fun _ _ => False

section
variable {prog : Program} {w : World} {A : Around} {s : Shared}
theorem compLoop_any {R : Result → Shared → Prop} {elt target iter : Expr} {ifs : List Expr} {scope : Scope} {pos : Pos} {it acc : Value} {env : Env} (I : Nat → Shared → Prop)
    (turn : ∀ n s E, I n s → wpAny (model prog w) A (pyNext it) (fun r s₁ => match r with
      | none => R (.ok .next) s₁
      | some v => wpAny (model prog w) A (letOwnedTupleGo target it v) (fun _ s₁' => wpAny (model prog w) A (assign target env v) (fun _ s₂ =>
          wpAny (model prog w) A (forIn ifs true fun c r => if r = true then do let ok ← isTrue c env (eval c env); pure (ForInStep.yield ok) else pure (ForInStep.yield r)) (fun ok s₃ =>
            if ok = true then wpAny (model prog w) A (eval elt env) (fun x s₄ =>
              wpAny (model prog w) A (call (.builtin "list.append") [acc, x]) (fun _ s₅ => ∃ m, m < n ∧ I m s₅) E s₄) E s₃
            else ∃ m, m < n ∧ I m s₃) E s₂) E s₁') E s₁) E s)
    (n : Nat) (h : I n s) : codeAny (model prog w) A (.compLoop (.ListComp elt [⟨target, iter, ifs, 0⟩] scope pos) 0 it acc env) R s := by
  refine codeAny_loop rfl I (fun n s hI => ?_) n h
  show wpAny _ A ((compTurn (.ListComp elt [⟨target, iter, ifs, 0⟩] scope pos) 0 it acc env).onRaise (fun x => do noteFrame x env; theTreesLotGoes x)) _ _ s
  refine wpAny_noted ?_
  rw [compTurn_list]
  refine wpAny_bind (wpAny_standAt (wpAny_bind (wpAny_mono (turn n s _ hI) (fun r s₁ h₁ => ?_) fun _ _ h' => h')))
  cases r with
  | none => exact wpAny_pure h₁
  | some v =>
    refine wpAny_bind (wpAny_mono h₁ (fun _ s₁' h₁ => ?_) fun _ _ h' => h')
    refine wpAny_bind (wpAny_mono h₁ (fun _ s₂ h₂ => wpAny_bind (wpAny_mono h₂ (fun ok s₃ h₃ => ?_) fun _ _ h' => h')) fun _ _ h' => h')
    cases ok with
    | false => exact wpAny_pure ⟨rfl, h₃⟩
    | true =>
      exact wpAny_bind (wpAny_bind (wpAny_mono h₃ (fun x s₄ h₄ => wpAny_bind (wpAny_mono h₄ (fun _ s₅ h₅ => wpAny_pure (wpAny_pure ⟨rfl, h₅⟩)) fun _ _ h' => h')) fun _ _ h' => h'))
end

section
variable {W : Wd} {c : Cx} {g g₁ : Heap} {ρ ρ₁ : Rho} {loc loc' : Loc} {σ σ' : Hp} {s s₁ : Shared} {n : Nat} {sc scope : Scope}
variable {K : MV → Hp → Prop} {KE : Xc → Hp → Prop}

/-! targets in a comprehension -/
@[irreducible] def AsQ (W : Wd) (n : Nat) (sc : Scope) (t : Expr) (m : MV) (loc : Loc) (σ : Hp) (K : Loc → Hp → Prop) : Prop :=
  ∀ c g ρ s v E, COk W n sc c → Good W c g ρ loc σ s → VRel g ρ m v → wpAny (Mo W) c.A (assign t c.env v) (UPost W c g ρ s K) E s
theorem aq_name {x : Str} {pos : Pos} {m : MV} {K : Loc → Hp → Prop} (hs : sc.names.lookup x = some .local) (h : K ((x, m) :: loc) σ) : AsQ W n sc (.Name x pos) m loc σ K := by with_unfolding_all exact (fun c g ρ s v E C G r => by
  exact wpAny_assign_Name (store_ok C G r (by rw [hs]; rfl) (fun q => by rw [hs] at q; cases q) fun s' G' st => ⟨_, σ, g, ρ, h, st, G'⟩))
@[irreducible] def AssQ (W : Wd) (n : Nat) (sc : Scope) (ts : List Expr) (ms : List MV) (loc : Loc) (σ : Hp) (K : Loc → Hp → Prop) : Prop :=
  ∀ c g ρ s vs E, COk W n sc c → Good W c g ρ loc σ s → VRels g ρ ms vs → wpAny (Mo W) c.A (assignInOrder ((assignEach ts c.env).map (·.2)) vs) (UPost W c g ρ s K) E s
theorem aqs_nil {K : Loc → Hp → Prop} (h : K loc σ) : AssQ W n sc [] [] loc σ K := by with_unfolding_all exact (fun c g ρ s vs E C G r => by
  cases r; exact wpAny_pure ⟨loc, σ, g, ρ, h, .refl, G⟩)
theorem aqs_cons {t : Expr} {ts : List Expr} {m : MV} {ms : List MV} {K : Loc → Hp → Prop} (h : AsQ W n sc t m loc σ (fun loc₁ σ₁ => AssQ W n sc ts ms loc₁ σ₁ K))
    (he : ∀ env, assignEach (t :: ts) env = (false, assign t env) :: assignEach ts env) : AssQ W n sc (t :: ts) (m :: ms) loc σ K := by with_unfolding_all exact (fun c g ρ s vs E C G r => by
  cases r with
  | cons r rs =>
    rename_i v vs
    rw [he]
    show wpAny _ _ (do holding vs (assign t c.env v); assignInOrder ((assignEach ts c.env).map (·.2)) vs) _ _ _
    refine wpAny_bind (wpAny_holding (wpAny_mono (h c g ρ s v E C G r) (fun _ s₁ q => ?_) fun _ _ x => x))
    obtain ⟨l₁, σ₁, g₁, ρ₁, k₁, st₁, G₁⟩ := q
    exact wpAny_mono (k₁ c g₁ ρ₁ s₁ vs E C G₁ (rs.mono st₁.ge st₁.re)) (fun _ _ q => q.after st₁) fun _ _ q => q)
theorem aq_tuple {ts : List Expr} {x1} {pos : Pos} {ms : List MV} {K : Loc → Hp → Prop} (hn : n < 1000) (hl : ts.length = ms.length) (he : ∀ env, (assignEach ts env).length = ts.length ∧ (assignEach ts env).findIdx? (·.1) = none)
    (h : AssQ W n sc ts ms loc σ K) : AsQ W n sc (.Tuple ts x1 pos) (.tup ms) loc σ K := by with_unfolding_all exact (fun c g ρ s v E C G r => by
  obtain ⟨a, vs, n', rfl, ha, hvs⟩ := tup_at G r
  have fr : s.heap.get? s.heap.objs.size = none := Heap.get?_none_of_le (Nat.le_refl _)
  refine wpAny_assign_Tuple (C.hd hn) (isTuple_of ha) (by rw [(he _).1, hl, hvs.length, List.size_toArray]) (he _).2 fun h' hx => ?_
  have G' : Good W c g ρ loc σ { s with heap := h' } := G.move (fun b o e _ => hx b o (fun q => by rw [q, fr] at e; cases e) e) rfl rfl
  have st : Step c g ρ s g ρ { s with heap := h' } := ⟨StaysIn.refl _, RLe.refl _, fun b o e P => ⟨hx b o (fun q => by rw [q, fr] at e; cases e) e, P⟩⟩
  exact wpAny_mono (h c g ρ _ vs E C G' hvs) (fun _ _ q => q.after st) fun _ _ q => q)

/-- the ifs -/
@[irreducible] def TestsP (W : Wd) (n : Nat) (sc : Scope) (ifs : List Expr) (loc : Loc) (σ : Hp) (K : Bool → Hp → Prop) : Prop :=
  ∀ c g ρ s E, COk W n sc c → Good W c g ρ loc σ s → wpAny (Mo W) c.A (forIn ifs true fun x r => if r = true then do let ok ← isTrue x c.env (eval x c.env); pure (ForInStep.yield ok) else pure (ForInStep.yield r)) (PostA W c g ρ loc s K) E s
theorem XPost.none {x : Value} {s' : Shared} (h : XPost W c g ρ loc s NE x s') : False := by
  obtain ⟨_, _, _, _, _, h, _⟩ := h; exact h
theorem tests_nil {K : Bool → Hp → Prop} (h : K true σ) : TestsP W n sc [] loc σ K := by with_unfolding_all exact (fun c g ρ s E C G => wpAny_tests_nil (PostA.now G h))
theorem tests_one {x : Expr} {K : Bool → Hp → Prop} (h : TsP W n sc x loc σ K NE) : TestsP W n sc [x] loc σ K := by with_unfolding_all exact (fun c g ρ s E C G =>
  wpAny_tests_one (wpAny_mono (h c g ρ s C G) (fun _ _ q => q) fun _ _ q => q.none.elim))

theorem append_ok {d : Nat} {items : List MV} {m : MV} {a va : Value} {E : Value → Shared → Prop} {A : Around} (G : Good W c g ρ loc σ s) (hd : σ[d]? = some (.list items)) (hz : items.length ≤ 1000) (ra : VRel g ρ (.obj d) a) (r : VRel g ρ m va) :
    wpAny (Mo W) A (call (.builtin "list.append") [a, va]) (Post W c g ρ loc s (fun m' σ' => m' = .none ∧ σ' = σ.set d (.list (items ++ [m])))) E s := by
  cases ra with
  | obj hp =>
    rename_i p
    have z := G.objs _ _ _ hp hd
    cases z with
    | list h hs =>
      rename_i a vs k
      refine wpAny_list_append_plain (items := vs.toArray) ⟨_, h⟩ (fun h' hl hsb => ?_) (by rw [List.size_toArray, ← hs.length, sizeLine_eq]; omega)
      obtain ⟨n', hl'⟩ := hl
      obtain ⟨G', st⟩ := G.upd1 (o' := .list (items ++ [m])) (t := s.toks) hp hsb.extBut (.list (vs := vs ++ [va]) (n := n') (by rw [hl']; simp) (hs.append (.one r))) (nogen_of hl' rfl)
      exact ⟨.none, _, g, ρ, ⟨rfl, rfl⟩, st, G', .none⟩

theorem comp_ind {elt target iter : Expr} {ifs : List Expr} {pos : Pos} {k d : Nat} {K : Hp → Prop} (I : Nat → Hp → Prop)
    (turn : ∀ m σ, I m σ → NxtP W n target k σ (fun mv σ₁ => AsQ W n sc target mv loc' σ₁ (fun loc₂ σ₂ => SubL loc' loc₂ ∧ TestsP W n sc ifs loc₂ σ₂ (fun b σ₃ =>
      (b = true → EvP W n sc elt loc₂ σ₃ (fun mv' σ₄ => ∃ items, σ₄[d]? = some (.list items) ∧ items.length ≤ 1000 ∧ ∃ m', m' < m ∧ Less (max (max (k + 1) (d + 1)) σ'.length) (fun l σ => l = loc' ∧ I m' σ) loc₂ (σ₄.set d (.list (items ++ [mv'])))) NE) ∧
      (b = false → ∃ m', m' < m ∧ Less (max (max (k + 1) (d + 1)) σ'.length) (fun l σ => l = loc' ∧ I m' σ) loc₂ σ₃)))) K)
    (m : Nat) (h : I m σ') : CompP W n sc (.ListComp elt [⟨target, iter, ifs, 0⟩] scope pos) k d loc' σ' K := by with_unfolding_all exact (fun c g ρ s v va C G r ra => by
  refine compLoop_any (fun m s' => ∃ σ₁ g₁ ρ₁, I m σ₁ ∧ Step c g ρ s g₁ ρ₁ s' ∧ Good W c g₁ ρ₁ loc' σ₁ s' ∧ VRel g₁ ρ₁ (.obj k) v ∧ VRel g₁ ρ₁ (.obj d) va) ?_ m ⟨σ', g, ρ, h, .refl, G, r, ra⟩
  rintro m s₀ E ⟨σ₁, g₁, ρ₁, hI, st₁, G₁, r₁, ra₁⟩
  have again : ∀ {loc₄ σ₄ g₄ ρ₄ s₅}, Step c g ρ s g₄ ρ₄ s₅ → Good W c g₄ ρ₄ loc₄ σ₄ s₅ → (∃ m', m' < m ∧ Less (max (max (k + 1) (d + 1)) σ'.length) (fun l σ => l = loc' ∧ I m' σ) loc₄ σ₄) →
      ∃ m', m' < m ∧ ∃ σ₁ g₁ ρ₁, I m' σ₁ ∧ Step c g ρ s g₁ ρ₁ s₅ ∧ Good W c g₁ ρ₁ loc' σ₁ s₅ ∧ VRel g₁ ρ₁ (.obj k) v ∧ VRel g₁ ρ₁ (.obj d) va := by
    intro loc₄ σ₄ g₄ ρ₄ s₅ st₄ G₄ ⟨m', lt, hL⟩
    obtain ⟨l, σ'', ρ'', ⟨rfl, hI'⟩, st', G', keep⟩ := G₄.less st₄ (by rw [← G.len]; omega) hL
    exact ⟨m', lt, σ'', g₄, ρ'', hI', st', G', keep _ _ (by omega) (r.mono st₄.ge st₄.re), keep _ _ (by omega) (ra.mono st₄.ge st₄.re)⟩
  refine wpAny_mono (turn m σ₁ hI sc c g₁ ρ₁ loc' s₀ v E C G₁ r₁) (fun x s₂ q => ?_) fun _ _ x => x
  cases x with
  | none =>
    obtain ⟨σ₂, g₂, ρ₂, hE, st₂, G₂⟩ := q
    exact ⟨_, rfl, _, σ₂, g₂, ρ₂, hE, st₁.trans st₂, G₂⟩
  | some x =>
    refine wpAny_mono q (fun _ s₃ q => ?_) fun _ _ x => x
    obtain ⟨mv, σ₂, g₂, ρ₂, hA, st₂, G₂, r₂⟩ := q
    refine wpAny_mono (hA c g₂ ρ₂ s₃ x E C G₂ r₂) (fun _ s₄ q => ?_) fun _ _ x => x
    obtain ⟨loc₃, σ₃, g₃, ρ₃, ⟨hsub, hT⟩, st₃, G₃⟩ := q
    have st13 := (st₁.trans st₂).trans st₃
    refine wpAny_mono (hT c g₃ ρ₃ s₄ E C G₃) (fun ok s₅ q => ?_) fun _ _ x => x
    obtain ⟨σ₄, g₄, ρ₄, ⟨h1, h2⟩, st₄, G₄⟩ := q
    have st14 := st13.trans st₄
    cases ok with
    | false => exact again st14 G₄ (h2 rfl)
    | true =>
      rw [if_pos rfl]
      refine wpAny_mono (h1 rfl c g₄ ρ₄ s₅ C G₄) (fun y s₆ q => ?_) fun _ _ q => q.none.elim
      obtain ⟨mv', σ₅, g₅, ρ₅, ⟨items, hit, hz, hm⟩, st₅, G₅, r₅⟩ := q
      have st15 := st14.trans st₅
      refine wpAny_mono (append_ok G₅ hit hz (ra.mono st15.ge st15.re) r₅) (fun _ s₇ q => ?_) fun _ _ x => x
      obtain ⟨_, σ₆, g₆, ρ₆, ⟨rfl, rfl⟩, st₆, G₆, _⟩ := q
      exact again (st15.trans st₆) G₆ hm)
end
end
section
open PySem PySem.W PyProof.Rows
/-! the program's own functions -/
def topStmt (i : Nat) : Stmt := (PySem.Challenge.pw_vn0045_01.main.body[i]?).getD (.Pass default)
def hdrStmt (j : Nat) : Stmt := match topStmt 12 with
  | .ClassDef _ _ _ body .. => (body[j]?).getD (.Pass default)
  | s => s
def bodyOf : Stmt → List Stmt
  | .FunctionDef _ _ body .. => body
  | _ => []
def scopeOf : Stmt → Scope
  | .FunctionDef _ _ _ _ _ _ scope .. => scope
  | _ => default
def paramsOf : Stmt → Arguments
  | .FunctionDef _ args .. => args
  | _ => default

structure FnRest where
  name : Str
  qual : Str
  cd : Value
  doc : Value
  pm : Value
  ct : Value
  ann : Option Addr
def fdOf (d : Stmt) (r : FnRest) (dv : Value) : FuncData :=
  { name := r.name, qualname := r.qual, params := paramsOf d, body := .stmts (bodyOf d), scope := scopeOf d, globals := mainGlobals, closure := [], defaults := dv, kwdefaults := .none, doc := r.doc, pyModule := r.pm, annotations := r.ann, code := r.cd, closureTuple := r.ct, builtins := builtinsNs }
/-- no defaults -/
def FnD (W : Wd) (a : Addr) (d : Stmt) : Prop := ∃ r, FnIs W a (fdOf d r .none)
/-- one default -/
def FnD1 (W : Wd) (a : Addr) (d : Stmt) (v : Value) : Prop := ∃ r T n, FnIs W a (fdOf d r (.ref T)) ∧ W.base.get? T = some (tupObj [v] n)

section
variable {W : Wd} {Kf : Frag} {c : Cx} {g g₁ : Heap} {ρ ρ₁ : Rho} {loc loc' : Loc} {σ σ' : Hp} {s s₁ : Shared} {n : Nat} {sc scope : Scope}
variable {K : MV → Hp → Prop} {KE : Xc → Hp → Prop}

/-! calls -/
theorem call_cd {f : Value} {ms : List MV} (hn : n ≤ 50) (h : CdP W n (fun vs kvs => .call f ⟨vs, kvs⟩) ms [] σ K KE) : CallM W n f ms [] σ K KE := by with_unfolding_all exact (fun sc c g ρ loc s vs kvs C G r kr => by
  refine wpAny_call (codeAny_mono (h sc c g ρ loc s vs kvs c.A C G r kr (C.near (by omega))) fun x s' hx => ?_)
  cases x with
  | error e => exact hx
  | ok f => cases f with
    | ret v => exact hx
    | _ => exact hx)

def zipB (ps : List Str) (ms : List MV) : Loc := ps.zip ms
theorem BRel.zip {ps : List Str} : ∀ {ms : List MV} {vs : List Value}, VRels g ρ ms vs → ps.length = ms.length → BRel g ρ (ps.zip vs) (ps.zip ms) := by
  induction ps with
  | nil => intro ms vs h e; cases ms with
    | nil => cases h; trivial
    | cons => simp at e
  | cons p ps ih =>
    intro ms vs h e
    cases h with
    | nil => simp at e
    | cons h hs => exact ⟨rfl, h, ih hs (by simpa using e)⟩

/-- positional parameters, each with its argument -/
theorem bd_pos {fd : FuncData} {ms : List MV} {ps : List Str} {K : Loc → Hp → Prop} (hb : ∀ vs : List Value, vs.length = ms.length → bindArgs fd ⟨vs, []⟩ = pure (ps.zip vs)) (hl : ps.length = ms.length) (h : K (ps.zip ms) σ) :
    BdP W n fd ms [] σ K := by with_unfolding_all exact (fun sc c g ρ loc s vs kvs A C G r kr N E => by
  cases kr
  rw [hb vs r.length.symm]
  exact wpAny_pure ⟨_, σ, g, ρ, h, .refl, G, BRel.zip r hl⟩)

/-! [ ] -/
theorem ev_sub {o i : Expr} {pos : Pos} (h : EvP W n sc o loc σ (fun mo σ₁ => EvP W n sc i loc σ₁ (fun mi σ₂ => Op2 W n (fun a b => do subscripted i (← getitemInPython a) a b) mo mi σ₂ K KE) KE) KE) :
    EvP W n sc (.Subscript o i pos) loc σ K KE := by with_unfolding_all exact (fun c g ρ s C G => by
  rw [eval_Subscript]
  refine wpAny_bind (wpAny_mono (h c g ρ s C G) (fun v₁ s₁ q₁ => ?_) fun _ _ x => x)
  obtain ⟨m₁, σ₁, g₁, ρ₁, k₁, st₁, G₁, r₁⟩ := q₁
  refine wpAny_bind (wpAny_holding (wpAny_mono (k₁ c g₁ ρ₁ s₁ C G₁) (fun v₂ s₂ q₂ => ?_) fun _ _ x => x.after st₁))
  obtain ⟨m₂, σ₂, g₂, ρ₂, k₂, st₂, G₂, r₂⟩ := q₂
  have st := st₁.trans st₂
  have z := k₂ sc c g₂ ρ₂ loc s₂ v₁ v₂ C G₂ (r₁.mono st₂.ge st₂.re) r₂
  refine wpAny_bind (wpAny_standAt ?_)
  have e : (do let r ← subscripted i (← getitemInPython v₁) v₁ v₂; letTemporaryGo o v₁ r; pure r : Sem Value) = (do subscripted i (← getitemInPython v₁) v₁ v₂ : Sem Value) >>= fun r => letTemporaryGo o v₁ r >>= fun _ => pure r := by
    simp only [bind_assoc]
  show wpAny _ _ (do let r ← subscripted i (← getitemInPython v₁) v₁ v₂; letTemporaryGo o v₁ r; pure r : Sem Value) _ _ _
  rw [e]
  refine wpAny_bind (wpAny_mono z (fun r s₃ q => ?_) fun _ _ x => x.after st)
  exact wpAny_bind (wpAny_letTemporaryGo (wpAny_pure (q.after st))))

theorem sub_int {T id : String} {o : Value} {k : Int} {t : Tok} {i : Expr} {A : Around} {Q : Value → Shared → Prop} {E : Value → Shared → Prop} (hT : s.TypeIs o T) (hl : typeLookup (.type T) "__getitem__" = pure (some (.builtin id)))
    (h : wpAny (Mo W) A (getItem o (.int k t)) Q E s) : wpAny (Mo W) A (do subscripted i (← getitemInPython o) o (.int k t)) Q E s := by
  refine wpAny_bind ?_
  rw [getitemInPython_of_ne hT.not_modules]
  refine wpAny_bind (wpAny_specialOf hT hl (wpAny_pure ?_))
  unfold subscripted
  split <;> first | exact wpAny_operating h | (rename_i q; cases q)

theorem sub_list_int {mo : MV} {l : List MV} {k : Int} {i : Expr} {j : Nat} {m : MV} (hl : asList σ mo = some l) (hz : l.length ≤ 100000) (hj : (0 ≤ k ∧ j = k.toNat) ∨ (k < 0 ∧ -(l.length : Int) ≤ k ∧ j = (k + l.length).toNat)) (hm : l[j]? = some m) (h : K m σ) :
    Op2 W n (fun a b => do subscripted i (← getitemInPython a) a b) mo (.int k) σ K KE := by with_unfolding_all exact (fun sc c g ρ loc s v₁ v₂ C G r₁ r₂ => by
  cases r₂
  obtain ⟨a, vs, n', rfl, ha, hvs⟩ := list_at G hl r₁
  obtain ⟨x, hx, rx⟩ := hvs.get hm
  have hlen := hvs.length
  have hjl : j < l.length := (List.getElem?_eq_some_iff.mp hm).1
  have il := isList_of ha
  refine sub_int il.typeIs slot_list_getitem.lookup ?_
  rcases hj with ⟨h0, rfl⟩ | ⟨h0, h1, rfl⟩
  · exact wpAny_getItem_list il h0 (by omega) (by rw [List.getElem?_toArray]; exact hx) (Post.now G rx h)
  · exact wpAny_getItem_list_neg il h0 (by rw [List.size_toArray, ← hlen]; exact h1) (by omega) (by rw [List.getElem?_toArray, List.size_toArray, ← hlen]; exact hx) (Post.now G rx h))

theorem call_len {mo : MV} {l : List MV} (hl : asList σ mo = some l) (hz : l.length ≤ 100000) (h : K (.int l.length) σ) : CallM W n (.builtin "len") [mo] [] σ K KE := by with_unfolding_all exact (fun sc c g ρ loc s vs kvs C G r kr => by
  cases kr
  cases r with | cons r₁ r₂ =>
  cases r₂
  obtain ⟨a, vs, n', rfl, ha, hvs⟩ := list_at G hl r₁
  refine Calls.call_len_list (isList_of ha) (by rw [List.size_toArray, ← hvs.length]; omega) ?_
  rw [List.size_toArray, ← hvs.length]
  exact Post.nowT G (.int _ _) h)
end
end
section
open PySem PySem.W
open Sem (wp)
/-! a class of one's own beneath KeyError, its tail of the mro being KeyError's -/
def keyMro : List Value := [.type "KeyError", .type "LookupError", .type "Exception", .type "BaseException", .type "object"]

theorem ke_mro : mroOf (.type "KeyError") = pure keyMro := by rw [mroOf_type]; kernel_rfl
theorem ke_init : Slot "KeyError" "__init__" "KeyError.__init__" := .of (owner := "KeyError") (n := "__init__") (by rw [typeLookup_type, builtinLookup_eq_fast]; kernel_rfl) (by decide +kernel) (by decide +kernel) (by decide +kernel)
    (by first | exact .inl (by decide +kernel) | exact .inr (by decide +kernel)) (by rw [isSubtype_type]; kernel_rfl)
theorem ke_initEntry : entryFor table "KeyError.__init__" = some Builtin.«BaseException.__init__» := entryFor_alias (id' := "BaseException.__init__") (by rw [fastTable_eq_tree]; kernel_rfl) (by first | rfl | decide +kernel) (by decide +kernel) (by rw [fastTable_eq_tree]; kernel_rfl)
theorem ke_initSplit : splitId "KeyError.__init__" = some ("KeyError", "__init__") := by kernel_rfl
theorem ke_initKind : builtinKind "KeyError.__init__" = some .slot := by kernel_rfl
theorem ke_initRow : Manifest.signature? "KeyError.__init__" = some ⟨.positional, "*", "KeyError", .self, [⟨"args", .varPos, false⟩]⟩ := by kernel_rfl

section
variable {M : Model} {A : Around} {E : Value → Shared → Prop} {h : Heap} {g : Array GenState} {d : Drawn} {t : Nat} {os : OsState}
variable {nm q : Str} {C N : Addr} {bs : List Value} {hdct : Bool} {sn : List Str} {sub : List Value} {ab : Bool} {col : Option Bool} {dd : Option Addr} {k0 k1 k2 k3 k5 : Option Value}

abbrev keyObj (nm q : Str) (C N : Addr) (bs : List Value) (hdct : Bool) (sn : List Str) (sub : List Value) (ab : Bool) (col : Option Bool) (dd : Option Addr) (k0 k1 k2 k3 k5 : Option Value) : Obj := excClassObj nm q C N bs keyMro hdct sn sub ab col dd k0 k1 k2 k3 k5 "LookupError.__new__"

theorem key_lookup_init {mN : Str → Option Value} {Q : Option Value → Shared → Prop} (hC : h.get? C = some (keyObj nm q C N bs hdct sn sub ab col dd k0 k1 k2 k3 k5)) (hn : h.Ns N mN) (hni : mN "__init__" = none)
    (hq : Q (some (.builtin "KeyError.__init__")) ⟨h, g, d, t, os⟩) : wpAny M A (typeLookup (.ref C) "__init__") Q E ⟨h, g, d, t, os⟩ := by
  refine wpAny_typeLookup_exc (B := "KeyError") (bm := keyMro) hC hn ke_mro ke_init.lookup ?_
  rw [hni]; exact hq

theorem key_check_new {rest : List Value} {Q : Unit → Shared → Prop} (hC : h.get? C = some (keyObj nm q C N bs hdct sn sub ab col dd k0 k1 k2 k3 k5))
    (hq : Q () ⟨h, g, d, t, os⟩) : wpAny M A (checkBuiltinCall "LookupError.__new__" ⟨.ref C :: rest, []⟩) Q E ⟨h, g, d, t, os⟩ := by
  have F := PySem.F.excBase_LookupError
  have hcont : (Value.ref C :: keyMro).contains (.type "LookupError") = true := by rw [List.contains_cons, show keyMro.contains (.type "LookupError") = true from by decide +kernel, Bool.or_true]
  have hstar := F.noStar
  simp only [checkBuiltinCall, F.newKind, F.newSplit, F.newRow]
  repeat (first | refine wpAny_loadPart_at hC ?_ | (refine wpAny_isSubtype_exc hC ?_; rw [hcont]) | refine wpAny_staticBase_exc hC ?_ | refine wpAny_madeBy_exc hC ?_ | simp only [bne_self_eq_false, Bool.false_eq_true, if_false] | wp_step)
  exact hq

theorem key_check_init {e : Addr} {oe : Obj} {rest : List Value} {Q : Unit → Shared → Prop}
    (hC : h.get? C = some (keyObj nm q C N bs hdct sn sub ab col dd k0 k1 k2 k3 k5)) (he : h.get? e = some oe) (hcls : oe.cls = .ref C) (hq : Q () ⟨h, g, d, t, os⟩) :
    wpAny M A (checkBuiltinCall "KeyError.__init__" ⟨.ref e :: rest, []⟩) Q E ⟨h, g, d, t, os⟩ := by
  have hcB : (Value.ref C :: keyMro).contains (.type "KeyError") = true := by rw [List.contains_cons, show keyMro.contains (.type "KeyError") = true from by decide +kernel, Bool.or_true]
  have hshort : ("KeyError" != "*") = true := by decide +kernel
  simp only [checkBuiltinCall, ke_initKind, ke_initSplit, ke_initRow]
  repeat (first | (with_reducible refine wpAny_loadPart_at he ?_; rw [hcls]) | with_reducible refine wpAny_loadPart_at hC ?_ | (with_reducible refine wpAny_isSubtype_exc hC ?_; rw [hcB]) | wp_step)
  refine wpAny_onRaise ?_
  rw [show ∀ (a b : String) (n : Nat), Bind.check ⟨.positional, "*", "KeyError", .self, [⟨"args", .varPos, false⟩]⟩ a b n (List.map (fun x => x.fst) ({ pos := Value.ref e :: rest } : Args).kw) = pure () from
    fun a b n => check_star_args _ _ _ _ _ _]
  exact wpAny_pure hq
end

section
variable {prog : Program} {w : World} {A : Around} {E : Value → Shared → Prop} {h : Heap} {g : Array GenState} {d : Drawn} {t : Nat} {os : OsState}
variable {nm q : Str} {C N : Addr} {bs : List Value} {hdct : Bool} {sn : List Str} {sub : List Value} {ab : Bool} {col : Option Bool} {dd : Option Addr} {k0 k1 k2 k3 k5 : Option Value}

theorem key_new {R : Result → Shared → Prop} {rest : List Value} (hC : h.get? C = some (keyObj nm q C N bs hdct sn sub ab col dd k0 k1 k2 k3 k5))
    (hq : R (.ok (.ret (.ref (h.objs.size + 1)))) ⟨(h.push { cls := .type "tuple", data := .seq rest.toArray }).push
      { cls := .ref C, data := .fields #[.ref h.objs.size, .none, .none, .none, .bool false, .none] }, g, d, t, os⟩) (hrest : rest.length ≤ sizeLine) :
    codeAny (model prog w) A (.builtin "LookupError.__new__" ⟨.ref C :: rest, []⟩) R ⟨h, g, d, t, os⟩ := by
  have F := PySem.F.excBase_LookupError
  have hends := F.ends
  have hcB : (Value.ref C :: keyMro).contains (.type "LookupError") = true := by rw [List.contains_cons, show keyMro.contains (.type "LookupError") = true from by decide +kernel, Bool.or_true]
  have hcA : (Value.ref C :: keyMro).contains (.type "AttributeError") = false := by rw [List.contains_cons, show keyMro.contains (.type "AttributeError") = false from by decide +kernel]; rfl
  have hcN : (Value.ref C :: keyMro).contains (.type "NameError") = false := by rw [List.contains_cons, show keyMro.contains (.type "NameError") = false from by decide +kernel]; rfl
  refine codeAny_builtinAt F.entry ?_
  unfold Builtin.«BaseException.__new__»
  refine wpAt_bind ?_
  show wpAt _ _ _ (stack >>= _) _ _ _
  refine wpAt_bind (wpAt_stack fun p below => wpAt_of_wpAny ?_)
  wp_walk
  refine wpAt_of_wpAny ?_
  rw [F.owner]
  repeat (first | with_reducible refine wpAny_madeHere_exc F.canon hC ?_ | with_reducible refine wpAny_loadPart_at hC ?_ | (with_reducible refine wpAny_isSubtype_exc hC ?_; first | rw [hcB] | rw [hcA] | rw [hcN]) | wp_step)
  show R _ _
  rw [Heap.size_push]
  exact hq

theorem key_type_call {mN : Str → Option Value} {rest : List Value} {Q : Fin → Shared → Prop}
    (hC : h.get? C = some (keyObj nm q C N bs hdct sn sub ab col dd k0 k1 k2 k3 k5)) (hn : h.Ns N mN) (hni : mN "__init__" = none)
    (hq : ∀ h' e, Heap.MadeExcOf h h' e (.ref C) rest → Q (.done (.ret (.ref e))) ⟨h', g, d, t, os⟩) (hrest : rest.length ≤ sizeLine) :
    wpAny (model prog w) A (Builtin.«type.__call__» ⟨.ref C :: rest, []⟩) Q E ⟨h, g, d, t, os⟩ := by
  have F := PySem.F.excBase_LookupError
  repeat (first | with_reducible refine wpAny_loadPart_at hC ?_ | with_reducible refine wpAny_madeBy_exc hC ?_ | wp_step)
  refine codeAny_call_builtin_code (Code.quiet_builtin _ F.quiet) (key_check_new hC ?_)
  refine key_new hC ?_ hrest
  show wpAny _ _ _ _ _ _
  have hC₁ := Heap.get?_push_of_some { cls := .ref C, data := .fields #[.ref h.objs.size, .none, .none, .none, .bool false, .none] }
    (Heap.get?_push_of_some { cls := .type "tuple", data := .seq rest.toArray } hC)
  have hn₁ : ((h.push { cls := .type "tuple", data := .seq rest.toArray }).push { cls := .ref C, data := .fields #[.ref h.objs.size, .none, .none, .none, .bool false, .none] }).Ns N mN :=
    let ⟨o, es, ep, e, r⟩ := hn; ⟨o, es, ep, Heap.get?_push_of_some _ (Heap.get?_push_of_some _ e), r⟩
  have hget : ((h.push { cls := .type "tuple", data := .seq rest.toArray }).push
      { cls := .ref C, data := .fields #[.ref h.objs.size, .none, .none, .none, .bool false, .none] }).get? (h.objs.size + 1) = some
      { cls := .ref C, data := .fields #[.ref h.objs.size, .none, .none, .none, .bool false, .none] } := by heap_get
  have hcC : (Value.ref C :: keyMro).contains (.ref C) = true := by simp
  unfold isInstance
  repeat (first | with_reducible refine wpAny_loadPart_at hget ?_ | (with_reducible refine wpAny_isSubtype_exc hC₁ ?_; rw [hcC]) | wp_step)
  show wpAny _ _ (typeLookup (.ref C) _) _ _ _
  refine key_lookup_init hC₁ hn₁ hni ?_
  refine wpAny_holding (wpAny_bind (wpAny_of_eq (ke_init.bind _) ?_))
  refine wpAny_bind (wpAny_call (codeAny_call_builtin ke_init.plain ke_initEntry (key_check_init hC₁ hget rfl ?_)))
  wp_walk
  refine hq _ _ ⟨fun b o hb => ?_, Heap.get?_none_of_le (Nat.le_succ _), h.objs.size + 2, ?_, Heap.get?_none_of_le (by omega), ?_⟩
  · rw [Heap.get?_update_other _ _ (Nat.ne_of_gt (Nat.lt_succ_of_lt (Heap.lt_size hb)))]
    exact Heap.get?_push_of_some _ (Heap.get?_push_of_some _ (Heap.get?_push_of_some _ hb))
  · rw [Heap.get?_update_self _ (Heap.get?_push_of_some _ hget) rfl]
    simp only [Heap.size_push]
    rfl
  · rw [Heap.get?_update_other _ _ (show h.objs.size + 1 ≠ h.objs.size + 2 by omega)]
    exact Heap.get?_push_at (by simp only [Heap.size_push]) rfl

theorem key_call {mN : Str → Option Value} {rest : List Value} {Q : Value → Shared → Prop}
    (hC : h.get? C = some (keyObj nm q C N bs hdct sn sub ab col dd k0 k1 k2 k3 k5)) (hn : h.Ns N mN) (hni : mN "__init__" = none)
    (hq : ∀ h' e, Heap.MadeExcOf h h' e (.ref C) rest → Q (.ref e) ⟨h', g, d, t, os⟩) (hrest : rest.length ≤ sizeLine) :
    wpAny (model prog w) A (call (.ref C) rest) Q E ⟨h, g, d, t, os⟩ := by
  have f1 := tc_lookup
  have f2 := tc_bind (.ref C)
  have hT : (⟨h, g, d, t, os⟩ : Shared).TypeIs (.ref C) "type" := ⟨_, hC, rfl⟩
  refine wpAny_call (codeAny_of_tree ?_)
  show wpAny _ _ (callAny (.ref C) _) _ _ _
  repeat (any_goals (first | assumption | with_reducible refine wpAny_loadPart_at hC ?_ | wp_step))
  refine ⟨rfl, ?_⟩
  refine codeAny_call_builtin_at (Code.quiet_builtin _ (by decide +kernel)) entry_typeCall (wpAny_check_type_call_sub hC (key_type_call (hrest := hrest) hC hn hni fun h' e hm => ?_))
  exact hq h' e hm
end
end
section
open PySem PySem.W PyProof.Rows
def isiTs : List Value := [.type "str", .type "int", .type "list", .type "tuple", .type "dict", .ref 527]
def isiCs : List Value := [.type "str", .type "int", .type "list", .type "tuple", .type "set", .type "dict", .ref 527, .ref 278]

/-- what more the heap of the top gives -/
structure Sx (W : Wd) (K : Frag) : Prop extends Sf W K where
  bad : ∃ nm q N bs hdct sn sub ab col dd k0 k1 k2 k3 k5 mN, W.base.get? 71 = some (keyObj nm q 71 N bs hdct sn sub ab col dd k0 k1 k2 k3 k5) ∧ W.base.Ns N mN ∧ mN "__init__" = none
  isi : ∀ t ∈ isiTs, ∀ c ∈ isiCs, kitOne K t c = some (t == c)
  own : plainGet K 527 "__class__" = true ∧ findIn K (.ref 527) "__class__" = some (some (.builtin "object.__class__")) ∧ specialIn K (.builtin "object.__class__") "__get__" = some (some (.builtin "getset_descriptor.__get__")) ∧
    takesIn K (.builtin "object.__class__") = some true ∧ mroIn K 527 (.type "object") = some true
  make : makesIn K 527 = true
  seta : findIn K (.ref 527) "__setattr__" = some (some (.builtin "object.__setattr__")) ∧ plainOver K 527 = true ∧ takerIn K 527 (Str.ofString "_list") = some none

section
variable {W : Wd} {Kf : Frag} {c : Cx} {g g₁ : Heap} {ρ ρ₁ : Rho} {loc loc' : Loc} {σ σ' : Hp} {s s₁ : Shared} {n : Nat} {sc scope : Scope}

/-! raising -/
theorem fly_new (G : Good W c g ρ loc σ s) {h' : Heap} {e t : Addr} {xc : Xc} (keeps : ∀ b o, s.heap.get? b = some o → h'.get? b = some o) (new : s.heap.get? e = none)
    (there : h'.get? e = some { cls := xc.cls, data := .fields #[.ref t, .none, .none, .none, .bool false, .none] }) : XFly c s.heap h' (.ref e) xc :=
  ⟨⟨e, rfl, new, _, _, there, rfl, rfl, .inl rfl⟩, fun b o q _ => keeps b o q, fun b o q => ⟨o.slots, keeps b o q⟩⟩

variable {K : Fl → Loc → Hp → Prop} {KE : Xc → Loc → Hp → Prop}

theorem sx_post {c : Cx} {s' : Shared} {g' : Heap} {ρ' : Rho} {σ' : Hp} {h₀ : Heap} {x : Value} {xc : Xc} (k : KE xc loc σ') (st : Step c g ρ s g' ρ' { s' with heap := h₀ }) (G : Good W c g' ρ' loc σ' { s' with heap := h₀ }) (X : XFly c h₀ s'.heap x xc) :
    SXPost W c g ρ s KE x s' := ⟨xc, loc, σ', g', ρ', h₀, k, st, G, X⟩

theorem ex_raise_val (F : Sx W Kf) (hn : n < 1000) {x : Str} {np cpos pos : Pos} {args : List Expr} (hx : sc.names.lookup x = some .globalImplicit) (hv : bTab.lookup x = some (.type "ValueError")) (hb : (x == ("__debug__" : Str)) = false)
    (hes : ∀ env pos, (backTo pos (starEach args env)).any (·.1) = false)
    (h : EvsP W n sc args loc σ (fun ms σ₁ => ms.length ≤ 1000 ∧ KE .val loc σ₁) (fun x σ₁ => KE x loc σ₁)) : ExP W n sc (.Raise (some (.Call (.Name x np) args [] cpos)) none pos) loc σ K KE := by with_unfolding_all exact (fun c g ρ s C G => by
  obtain ⟨mg, mb, a1, a2, a3, a4⟩ := F.glob
  refine wpAny_Raise_call PySem.F.excCall_ValueError PySem.F.excRaise_ValueError (C.hd hn) (hes _ _) (Calls.Name_function_global (by rw [C.scE]; exact C.kind) (by unfold Env.kindOf; rw [C.scE]; exact hx)
    (Calls.loadGlobal_builtin (mg := mg) (mb := mb) (by rw [C.glob]; exact a1.keeps G.baseIn) (a4 x _ hv).1 (by rw [C.blt]; exact a2.keeps G.baseIn) (a4 x _ hv).2 ⟨rfl, ?_⟩) hb)
  refine evalArgs_all (wpAny_mono (h c g ρ s cpos C.toCOk G) (fun vs s₁ q => ?_) fun _ _ x => x.toS) (hes _ _)
  obtain ⟨ms, σ₁, g₁, ρ₁, ⟨hz, k₁⟩, st₁, G₁, r₁⟩ := q
  refine ⟨rfl, by show vs.length ≤ sizeLine; rw [← r₁.length, sizeLine_eq]; omega, fun h' e hm => ?_⟩
  obtain ⟨t, ht, _, _⟩ := hm.there
  exact sx_post (s' := { s₁ with heap := h' }) (h₀ := s₁.heap) k₁ st₁ G₁ (fly_new (xc := .val) G₁ hm.keeps hm.new ht))

theorem ex_raise_key (F : Sx W Kf) (hn : n < 1000) {x : Str} {np cpos pos : Pos} {args : List Expr} (hx : sc.names.lookup x = some .globalImplicit) (hv : gTab.lookup x = some (.ref 71)) (hb : (x == ("__debug__" : Str)) = false)
    (hes : ∀ env pos, (backTo pos (starEach args env)).any (·.1) = false)
    (h : EvsP W n sc args loc σ (fun ms σ₁ => ms.length ≤ 1000 ∧ KE .key loc σ₁) (fun x σ₁ => KE x loc σ₁)) : ExP W n sc (.Raise (some (.Call (.Name x np) args [] cpos)) none pos) loc σ K KE := by with_unfolding_all exact (fun c g ρ s C G => by
  obtain ⟨mg, mb, a1, a2, a3, a4⟩ := F.glob
  obtain ⟨nm, q, N, bs, hdct, sn, sub, ab, col, dd, k0, k1, k2, k3, k5, mN, hC, hN, hni⟩ := F.bad
  rw [arm_exec_Raise]
  show wpAny _ _ (do standAt pos; raiseStmt c.env (some (do let v ← eval (.Call (.Name x np) args [] cpos) c.env; standAt pos; pure v)) none) _ _ s
  refine wpAny_bind (wpAny_standAt (wpAny_raiseStmt_made_sub (C := 71) (nm := nm) (q := q) (N := N) (bs := bs) (bm := keyMro) (hdct := hdct) (sn := sn) (sub := sub) (ab := ab) (col := col) (dd := dd) (k0 := k0) (k1 := k1) (k2 := k2) (k3 := k3) (k5 := k5) (newId := "LookupError.__new__")
    (by decide +kernel) (C.hd hn) (wpAny_bind (wpAny_mono (wpAny_Call_ofName (wpAny_mono (Calls.Name_function_global (by rw [C.scE]; exact C.kind) (by unfold Env.kindOf; rw [C.scE]; exact hx)
      (Calls.loadGlobal_global (mg := mg) (by rw [C.glob]; exact a1.keeps G.baseIn) (a3 x _ hv) (Q := fun f s₁ => f = .ref 71 ∧ s₁ = s) ⟨rfl, rfl⟩) hb) (fun f s₁ h₁ => ?_) fun _ _ x => x)) (fun v s₃ h₃ => wpAny_bind (wpAny_standAt (wpAny_pure h₃))) fun _ _ x => x))))
  obtain ⟨rfl, rfl⟩ := h₁
  unfold callWith
  refine wpAny_bind (wpAny_holding (evalArgs_all (wpAny_mono (h c g ρ s₁ cpos C.toCOk G) (fun vs s₂ q => wpAny_bind (wpAny_standAt ?_)) fun _ _ x => x.toS) (hes _ _)))
  obtain ⟨ms, σ₁, g₁, ρ₁, ⟨hz, k₁⟩, st₁, G₁, r₁⟩ := q
  have hC' := G₁.baseIn _ _ hC
  have hN' := hN.keeps G₁.baseIn
  simp only [hes]
  obtain ⟨hp, gg, d, tk, os⟩ := s₂
  refine wpAny_bind (wpAny_keeperOf_exc hC' ?_)
  refine wpAny_bind (key_call (rest := vs) (hrest := by rw [← r₁.length, sizeLine_eq]; omega) hC' hN' hni fun h' e hm => wpAny_bind (wpAny_holding (wpAny_point (wpAny_pure ?_))))
  obtain ⟨t, ht, _, _⟩ := hm.there
  exact ⟨e, t, rfl, hm.keeps _ _ hC', ht, sx_post (s' := ⟨h', gg, d, tk, os⟩) (h₀ := hp) k₁ st₁ G₁ (fly_new (xc := .key) G₁ hm.keeps hm.new ht)⟩)
end
end
section
open PySem PySem.W PyProof.Rows
section
variable {W : Wd} {Kf : Frag} {c : Cx} {g g₁ : Heap} {ρ ρ₁ : Rho} {loc loc' : Loc} {σ σ' : Hp} {s s₁ : Shared} {n : Nat} {sc scope : Scope}
variable {K : Fl → Loc → Hp → Prop} {KE : Xc → Loc → Hp → Prop}

/-- the same frame in an except suite -/
def Cx.at (c : Cx) (A : Around) : Cx := { A, env := c.env, stack := c.stack, kept := c.kept }
theorem Good.at (G : Good W c g ρ loc σ s) (A : Around) : Good W (c.at A) g ρ loc σ s := ⟨G.base, G.gh, G.gρ, G.ρd, G.len, G.objs, G.os, G.gens, G.gq, G.locs, G.ns, G.cel, G.kep⟩
theorem Good.un {A : Around} (G : Good W (c.at A) g ρ loc σ s) : Good W c g ρ loc σ s := ⟨G.base, G.gh, G.gρ, G.ρd, G.len, G.objs, G.os, G.gens, G.gq, G.locs, G.ns, G.cel, G.kep⟩
theorem Priv.at {a : Addr} (P : Priv c g ρ a) (A : Around) : Priv (c.at A) g ρ a := ⟨P.g, P.r, P.l, P.cl, P.k⟩
theorem Priv.un {a : Addr} {A : Around} (P : Priv (c.at A) g ρ a) : Priv c g ρ a := ⟨P.g, P.r, P.l, P.cl, P.k⟩
theorem Step.un {A : Around} (x : Step (c.at A) g ρ s g₁ ρ₁ s₁) : Step c g ρ s g₁ ρ₁ s₁ := ⟨x.ge, x.re, fun a o e P => let ⟨e', P'⟩ := x.ke a o e (P.at A); ⟨e', P'.un⟩⟩
theorem XFly.un {A : Around} {h₀ h : Heap} {x : Value} {xc : Xc} (X : XFly (c.at A) h₀ h x xc) : XFly c h₀ h x xc := ⟨X.ex, X.keep, X.slots⟩
theorem SPost.un {A : Around} {f : Flow} {s' : Shared} (q : SPost W (c.at A) g ρ s K f s') : SPost W c g ρ s K f s' := by
  obtain ⟨fl, l', σ', g', ρ', k, st, G, r⟩ := q
  exact ⟨fl, l', σ', g', ρ', k, st.un, G.un, r⟩
theorem SXPost.un {A : Around} {f : Value} {s' : Shared} (q : SXPost W (c.at A) g ρ s KE f s') : SXPost W c g ρ s KE f s' := by
  obtain ⟨fl, l', σ', g', ρ', h₀, k, st, G, r⟩ := q
  exact ⟨fl, l', σ', g', ρ', h₀, k, st.un, G.un, r.un⟩

theorem COkS.at (C : COkS W n sc c) (hn : n < 1000) (h : Option Value) : COkS W (n + 1000) sc (c.at (c.A.mark h)) := by
  have e : (n + 1000) % 1000 = n % 1000 := by omega
  exact ⟨⟨C.scE, C.kind, C.glob, C.blt, fun q => by omega, by rw [e]; exact C.dep, by rw [e]; exact C.un, C.fr, C.top, C.cellL, C.stk, C.keptL, C.cellx⟩, C.top', C.frm, C.cells, C.keptC⟩

def Xc.name : Xc → String
  | .key => "KeyError"
  | .val => "ValueError"

theorem ve_notTuple : isSubtype (.type ((Manifest.find? "ValueError").elim "type" fun x => x.metatype)) (.type "tuple") = pure false := by
  rw [find?_eq_fast]
  rw [show (fastFind? "ValueError").elim "type" (fun x => x.metatype) = "type" from by kernel_rfl, isSubtype_type]; kernel_rfl

theorem xc_match (F : Sx W Kf) {A : Around} {E : Value → Shared → Prop} {Q : Bool → Shared → Prop} {e : Addr} {oe : Obj} {xc : Xc} (hb : W.base.StaysIn s.heap) (he : s.heap.get? e = some oe) (hc : oe.cls = xc.cls) (h : Q true s) :
    wpAny (Mo W) A (excMatches (.ref e) (.type xc.name)) Q E s := by
  cases xc with
  | key =>
    obtain ⟨nm, q, N, bs, hdct, sn, sub, ab, col, dd, k0, k1, k2, k3, k5, mN, hC, hN, hni⟩ := F.bad
    obtain ⟨hp, gg, d, tk, os⟩ := s
    refine wpAny_excMatches_sub_type (C := 71) (hb _ _ hC) he hc (by rw [isSubtype_type]; kernel_rfl) kr_notTuple_KeyError ?_
    show Q (keyMro.contains (.type "KeyError")) _
    rw [show keyMro.contains (.type "KeyError") = true from by decide +kernel]; exact h
  | val =>
    exact wpAny_excMatches_type (X := "ValueError") (T := "ValueError") (b := true) ⟨oe, he, hc⟩ PySem.F.excRaise_ValueError.isExc ve_notTuple PySem.F.excCall_ValueError.sub h

/-- one clause, by a builtin's name; what was raised is always of its kind -/
theorem caught (F : Sx W Kf) (C : COkS W n sc c) {xc : Xc} {h₀ : Heap} {x : Value} {s' : Shared} (st : Step c g ρ s g₁ ρ₁ { s' with heap := h₀ }) (G : Good W c g₁ ρ₁ loc σ { s' with heap := h₀ }) (X : XFly c h₀ s'.heap x xc)
    {t : Str} {np hpos : Pos} {b₀ : Stmt} {suite : List Stmt} (ht : sc.names.lookup t = some .globalImplicit) (hv : bTab.lookup t = some (.type xc.name)) (hb : (t == ("__debug__" : Str)) = false) {Q : Flow → Shared → Prop} {E : Value → Shared → Prop}
    (h : ∀ h₃, XAt c h₀ h₃ x xc .none → Good W c g₁ ρ₁ loc σ { s' with heap := h₃ } → Step c g ρ s g₁ ρ₁ { s' with heap := h₃ } → wpAny (Mo W) (c.A.mark (some x)) (execs (b₀ :: suite) c.env) Q (notedBy (Mo W) (c.A.mark (some x)) c.env (cameBackBy (Mo W) c.A c.env E)) { s' with heap := h₃ }) :
    wpAny (Mo W) c.A (noteFrame x c.env) (fun _ s₂ => wpAny (Mo W) c.A (setFlight x none) (fun _ s₃ => wpAny (Mo W) c.A (handleBy x c.env [.ExceptHandler (some (.Name t np)) none (b₀ :: suite) hpos]) Q E s₃) E s₂) E s' := by
  obtain ⟨outer, ho⟩ := C.top'
  obtain ⟨mg, mb, a1, a2, a3, a4⟩ := F.glob
  refine note_ok (s := s') C.toCOk C.frm ho rfl G X fun h₁ X₁ => ?_
  refine X₁.turn (s := { s' with heap := h₁ }) none rfl fun h₂ X₂ => ?_
  obtain ⟨e, rfl, he0, oe, vs, T, oT, ts, t1, t2, t3, t4, t5, t6, t7, t8, t9⟩ := id X₂.ex
  have L₂ := Good.land C.toCOk st G X₂.keep X₂.slots
  refine wpAny_handleBy_cons (codeAny_handlers_test (Calls.Name_function_global (by rw [C.scE]; exact C.kind) (by unfold Env.kindOf; rw [C.scE]; exact ht)
    (Calls.loadGlobal_builtin (mg := mg) (mb := mb) (by rw [C.glob]; exact a1.keeps L₂.1.baseIn) (a4 t _ hv).1 (by rw [C.blt]; exact a2.keeps L₂.1.baseIn) (a4 t _ hv).2 ?_) hb)) (by intro q; cases q)
  refine xc_match F L₂.1.baseIn t1 t2 ?_
  refine codeAny_handlers_suite (X₂.turn (s := { s' with heap := h₂ }) none rfl fun h₃ X₃ => ?_)
  have L₃ := Good.land C.toCOk st G X₃.keep X₃.slots
  exact h h₃ X₃ L₃.1 L₃.2

theorem ex_try (F : Sx W Kf) (hn : n < 1000) {body suite : List Stmt} {t : Str} {np hpos pos : Pos} {b₀ : Stmt} {xc : Xc} (ht : sc.names.lookup t = some .globalImplicit) (hv : bTab.lookup t = some (.type xc.name)) (hb : (t == ("__debug__" : Str)) = false)
    (h : ExsP W n sc body loc σ K (fun x l σ₁ => x = xc ∧ ExsP W (n + 1000) sc (b₀ :: suite) l σ₁ K KE)) : ExP W n sc (.Try body [.ExceptHandler (some (.Name t np)) none (b₀ :: suite) hpos] [] [] pos) loc σ K KE := by with_unfolding_all exact (fun c g ρ s C G => by
  refine wpAny_Try_except (wpAny_mono (h c g ρ s C G) (fun f s₁ q => ?_) fun x s' q => ?_)
  · obtain ⟨fl, l', σ', g', ρ', k, st, G', r⟩ := q
    cases r with
    | next => exact wpAny_execs_nil ⟨.next, l', σ', g', ρ', k, st, G', .next⟩
    | brk => exact ⟨.brk, l', σ', g', ρ', k, st, G', .brk⟩
    | cont => exact ⟨.cont, l', σ', g', ρ', k, st, G', .cont⟩
    | ret r => exact ⟨.ret _, l', σ', g', ρ', k, st, G', .ret r⟩
  · obtain ⟨xc', l', σ', g', ρ', h₀, ⟨rfl, hS⟩, st, G', X⟩ := q
    refine caught F C st G' X ht hv hb fun h₃ X₃ G₃ st₃ => ?_
    refine wpAny_mono (hS (c.at (c.A.mark (some x))) g' ρ' { s' with heap := h₃ } (C.at hn _) (G₃.at _)) (fun f s₄ q => (SPost.un q).after st₃) fun y s₄ q => ?_
    exact SXPost.loops C rfl (SXPost.after st₃ (SXPost.un q)))

/-- ... whose suite ends by raising again what was caught -/
theorem ex_try_re (F : Sx W Kf) (hn : n < 1000) {body sb : List Stmt} {t : Str} {np hpos pos ipos rpos : Pos} {test : Expr} {xc : Xc} (ht : sc.names.lookup t = some .globalImplicit) (hv : bTab.lookup t = some (.type xc.name)) (hb : (t == ("__debug__" : Str)) = false)
    (h : ExsP W n sc body loc σ K (fun x l σ₁ => x = xc ∧ TsP W (n + 1000) sc test l σ₁ (fun b σ₂ => b = false ∧ KE xc l σ₂) NE)) :
    ExP W n sc (.Try body [.ExceptHandler (some (.Name t np)) none [.If test sb [] ipos, .Raise none none rpos] hpos] [] [] pos) loc σ K KE := by with_unfolding_all exact (fun c g ρ s C G => by
  refine wpAny_Try_except (wpAny_mono (h c g ρ s C G) (fun f s₁ q => ?_) fun x s' q => ?_)
  · obtain ⟨fl, l', σ', g', ρ', k, st, G', r⟩ := q
    cases r with
    | next => exact wpAny_execs_nil ⟨.next, l', σ', g', ρ', k, st, G', .next⟩
    | brk => exact ⟨.brk, l', σ', g', ρ', k, st, G', .brk⟩
    | cont => exact ⟨.cont, l', σ', g', ρ', k, st, G', .cont⟩
    | ret r => exact ⟨.ret _, l', σ', g', ρ', k, st, G', .ret r⟩
  · obtain ⟨xc', l', σ', g', ρ', h₀, ⟨rfl, hS⟩, st, G', X⟩ := q
    refine caught F C st G' X ht hv hb fun h₃ X₃ G₃ st₃ => ?_
    have C' := (C.at hn (some x)).toCOk
    refine wpAny_execs_cons (wpAny_If (wpAny_mono (hS (c.at (c.A.mark (some x))) g' ρ' { s' with heap := h₃ } C' (G₃.at _)) (fun b s₄ q => ?_) fun y s₄ q => q.none.elim))
    obtain ⟨σ₄, g₄, ρ₄, ⟨rfl, hK⟩, st₄, G₄⟩ := q
    rw [if_neg Bool.false_ne_true]
    refine wpAny_execs_nil (wpAny_execs_cons ?_)
    -- the exception is where it was
    obtain ⟨e, rfl, he0, oe, vs, T, oT, ts, t1, t2, t3, t4, t5, t6, t7, t8, t9⟩ := id X₃.ex
    have priv : ∀ a, h₀.get? a = none → Priv c g' ρ' a := fun a ha => G'.fresh ha
    obtain ⟨e4, Pe⟩ := st₄.ke e oe t1 ((priv e he0).at _)
    obtain ⟨T4, PT⟩ := st₄.ke T oT t7 ((priv T t5).at _)
    rw [arm_exec_Raise]
    refine wpAny_bind (wpAny_standAt ?_)
    show wpAny _ _ (raiseStmt c.env none none) _ _ s₄
    unfold raiseStmt
    refine wpAny_bind (wpAny_handled ?_)
    show wpAny _ _ (do
      rule "raise.bare"
      if (← field (.ref e) 1) == Value.none then unsupported "raise.bare:exception-without-traceback"
      setFlight (.ref e) c.env.frame
      throw (.ref e)) _ _ s₄
    refine wpAny_bind (wpAny_rule (wpAny_bind (wpAny_field e4 t3 t4 ?_)))
    rw [if_neg (show ¬ ((Value.ref T == Value.none) = true) from by simp)]
    have X₄ : XAt c (hideAll s₄.heap [e, T]) s₄.heap (.ref e) xc' .none :=
      ⟨⟨e, rfl, hideAll_none _ (.head _), oe, vs, T, oT, ts, e4, t2, t3, t4, hideAll_none _ (.tail _ (.head _)), t6, T4, t8, t9⟩, fun b o q _ => of_hideAll _ q, fun b o q => ⟨o.slots, of_hideAll _ q⟩⟩
    have hide : ∀ b o, s₄.heap.get? b = some o → b ≠ e → b ≠ T → (hideAll s₄.heap [e, T]).get? b = some o := fun b o q n1 n2 => hideAll_get _ q (by simp [n1, n2])
    have G₅ : Good W c g₄ ρ₄ l' σ₄ { s₄ with heap := hideAll s₄.heap [e, T] } := (G₄.un).move (fun b o q np => hide b o q (fun z => np (z ▸ Pe.un)) (fun z => np (z ▸ PT.un))) rfl rfl
    have st₅ : Step c g ρ s g₄ ρ₄ { s₄ with heap := hideAll s₄.heap [e, T] } := by
      have z := st₃.trans st₄.un
      refine ⟨z.ge, z.re, fun b o q P => ?_⟩
      obtain ⟨q0, _⟩ := st.ke b o q P
      obtain ⟨q4, P4⟩ := z.ke b o q P
      exact ⟨hide b o q4 (fun y => by rw [y] at q0; exact nomatch (he0.symm.trans q0)) (fun y => by rw [y] at q0; exact nomatch (t5.symm.trans q0)), P4⟩
    rw [C.frm]
    refine wpAny_bind (X₄.turn (s := s₄) (some c.env.locals) rfl fun h₅ X₅ => wpAny_throw ?_)
    exact SXPost.loops C rfl ⟨xc', l', σ₄, g₄, ρ₄, _, hK, st₅, G₅, X₅.fly (.inr ⟨_, C.frm, rfl⟩)⟩)
end
end
section
open PySem PySem.W PyProof.Rows
open AutoSeq1 (wpAny_loadPart')
theorem meets_enum_it (a l : Addr) (i : Nat) (dct : Option Addr) (sl : Array (Option Value)) :
    Meets (Builtin.«enumerate.__new__» ⟨[.type "enumerate", .ref a], []⟩) (fun _ R s => s.heap.get? a = some { cls := .type "list_iterator", dict := dct, data := .fields #[.ref l, .int i 0], slots := sl } ∧
      R (.ok (.ret (.ref s.heap.objs.size))) { s with heap := s.heap.push { cls := .type "enumerate", data := .fields #[.none, .bool false, .ref a, rawInt 0, .none, .none] } }) :=
  .of_wp fun prog w A R s h => by
    obtain ⟨hp, g, d, tk, os⟩ := s; obtain ⟨hl, h⟩ := h
    have hsub := sub_enumerate
    have hL : Heap.IsListIter (Shared.heap ⟨hp, g, d, tk, os⟩) a l i := ⟨_, hl, rfl, rfl⟩
    wp_walk using wpAny_loadPart' hl
    refine wpAny_stack_any fun st => wpAny_pure ?_
    split
    · rename_i c _ _ _ _ _
      cases (c == Value.type "enumerate")
      · wp_walk using wpAny_loadPart' hl, wpAny_pyIter_listiter hL
        exact ⟨_, rfl, h⟩
      · wp_walk using wpAny_loadPart' hl, wpAny_pyIter_listiter hL
        exact ⟨_, rfl, h⟩
    · wp_walk using wpAny_loadPart' hl, wpAny_pyIter_listiter hL
      exact ⟨_, rfl, h⟩

section
variable {W : Wd} {Kf : Frag} {c : Cx} {g g₁ : Heap} {ρ ρ₁ : Rho} {loc loc' : Loc} {σ σ' : Hp} {s s₁ : Shared} {n : Nat} {sc scope : Scope}
variable {K : MV → Hp → Prop} {KE : Xc → Hp → Prop}

theorem Post.un {A : Around} {f : Value} {s' : Shared} (q : Post W (c.at A) g ρ loc s K f s') : Post W c g ρ loc s K f s' := by
  obtain ⟨m, σ', g', ρ', k, st, G, r⟩ := q
  exact ⟨m, σ', g', ρ', k, st.un, G.un, r⟩
theorem XPost.un {A : Around} {f : Value} {s' : Shared} (q : XPost W (c.at A) g ρ loc s KE f s') : XPost W c g ρ loc s KE f s' := by
  obtain ⟨m, σ', g', ρ', h₀, k, st, G, r⟩ := q
  exact ⟨m, σ', g', ρ', h₀, k, st.un, G.un, r.un⟩
theorem PostA.un {α : Type} {K : α → Hp → Prop} {A : Around} {f : α} {s' : Shared} (q : PostA W (c.at A) g ρ loc s K f s') : PostA W c g ρ loc s K f s' := by
  obtain ⟨σ', g', ρ', k, st, G⟩ := q
  exact ⟨σ', g', ρ', k, st.un, G.un⟩

theorem COk.near' (C : COk W n sc c) (hn : n ≤ 50) {A : Around} (N : Near c A) : COk W (n + 1) sc (c.at A) := by
  have e : (n + 1) % 1000 = n % 1000 + 1 := by omega
  refine ⟨C.scE, C.kind, C.glob, C.blt, fun _ => N.hd, ?_, ?_, N.fr, C.top, C.cellL, C.stk, C.keptL, C.cellx⟩
  · rw [e]; have := N.dep; have := C.dep; show A.depth ≤ _; omega
  · rw [e]; have := N.un; have := C.un; show A.units ≤ _; omega
theorem Near.in1 (C : COk W n sc c) (hn : n ≤ 50) : Near c c.A.in1 := ⟨C.fr, C.hd (by omega), Nat.le_add_right _ _, by show c.A.units + 1 ≤ _; omega⟩
theorem COk.in1 (C : COk W n sc c) (hn : n ≤ 50) : COk W (n + 1) sc (c.at c.A.in1) := C.near' hn (Near.in1 C hn)

theorem call_iter {m : MV} (hn : n ≤ 50) (h : IterP W (n + 1) m σ (fun k σ' => K (.obj k) σ')) : CallM W n (.builtin "iter") [m] [] σ K KE := by with_unfolding_all exact (fun sc c g ρ loc s vs kvs C G r kr => by
  cases kr
  cases r with | cons r₁ r₂ =>
  cases r₂
  rename_i v
  refine Calls.call_function_entry (by decide +kernel) (by decide +kernel) kdk_entry_iter (kdk_args_iter _) ?_
  unfold Builtin.«iter»
  refine wpAny_bind (m := someArgs "iter" 1 2 _) (wpAny_of_eq (a := [v]) (by first | rfl | kernel_rfl!) ?_)
  show wpAny _ _ (pyIter v >>= _) _ _ _
  refine wpAny_bind (wpAny_mono (h sc _ g ρ loc s v _ (C.in1 hn) (G.at _) r₁) (fun it s₁ q => ?_) fun _ _ x => x)
  obtain ⟨m', σ', g', ρ', ⟨k, rfl, hk⟩, st, G', r'⟩ := q
  exact wpAny_pure ⟨_, rfl, _, σ', g', ρ', hk, st.un, G'.un, r'⟩)

theorem call_next_list {k : Nat} {src : MV} {p : Nat} {l : List MV} {m : MV} (hk : σ[k]? = some (.sem (listIt src p))) (hl : asList σ src = some l) (hm : l[p]? = some m) (h : K m (σ.set k (.sem (listIt src (p + 1))))) :
    CallM W n (.builtin "next") [.obj k] [] σ K KE := by with_unfolding_all exact (fun sc c g ρ loc s vs kvs C G r kr => by
  cases kr
  cases r with | cons r₁ r₂ =>
  cases r₂
  obtain ⟨⟨a, a2⟩, hp, rfl, e2, o, ho, la, hr, hcl, hd⟩ := sem_at G hk r₁
  cases e2
  obtain ⟨la', vs, n', e3, hla, hvs⟩ := list_at G hl hr
  cases e3
  have hit : s.heap.IsListIter a la p := ⟨o, ho, hcl, hd⟩
  obtain ⟨x, hx, rx⟩ := hvs.get hm
  refine Calls.call_function_entry (by decide +kernel) (by decide +kernel) kdk_entry_next (kdk_args_next _) ?_
  unfold Builtin.«next»
  refine wpAny_bind (m := someArgs "next" 1 2 _) (wpAny_of_eq (a := [Value.ref a]) (by first | rfl | kernel_rfl!) ?_)
  dsimp only
  refine wpAny_bind (wpAny_specialOf (name := Str.ofString "__next__") hit.typeIs slot_listiter_next.lookup ?_)
  refine wpAny_ite_split (fun hab => absurd hab (by decide)) (fun _ => ?_)
  refine wpAny_bind (wpAny_callSpecial?_slot (name := Str.ofString "__next__") hit.typeIs slot_listiter_next
    (wpAny_call_entry slot_listiter_next hit.typeIs entry_listiter_next ?_ (args_listiter_next _)))
  obtain ⟨ol, hol, _, nl, hdl⟩ := isList_of hla
  show wpAny _ _ (field (.ref a) 0 >>= _) _ _ s
  refine wpAny_bind (wpAny_field ho hd (x := .ref la) rfl ?_)
  show wpAny _ _ (if (Value.ref la == Value.none) = true then _ else _) _ _ s
  rw [if_neg (show ¬ ((Value.ref la == Value.none) = true) from Bool.false_ne_true)]
  show wpAny _ _ (field (.ref a) 1 >>= _) _ _ s
  refine wpAny_bind (wpAny_field ho hd (x := .int p 0) rfl ?_)
  show wpAny _ _ (seqItems? (.ref la) >>= _) _ _ s
  refine wpAny_bind (wpAny_seqItems hol hdl ?_)
  simp only [Int.toNat_natCast, show vs.toArray[p]? = some x from by rw [List.getElem?_toArray]; exact hx]
  refine wpAny_bind (wpAny_setField ho hd (by simp) (wpAny_pure ⟨x, rfl, wpAny_pure ⟨_, rfl, ?_⟩⟩))
  have hit' : (s.heap.update a (Obj.mapFields (·.setIfInBounds 1 (rawInt ((p : Int) + 1))))).IsListIter a la (p + 1) :=
    ⟨_, Heap.get?_update_self _ ho (Obj.isFreed_of_fields (Obj.data_mapFields hd _)), (Obj.cls_mapFields ..).trans hcl, by rw [Obj.data_mapFields hd]; simp [rawInt]⟩
  obtain ⟨o', ho', hc', hd'⟩ := id hit'
  obtain ⟨G', st⟩ := G.upd1 (o' := .sem (listIt src (p + 1))) (t := s.toks) hp (Heap.SameBut.update ..).extBut (.sem ⟨rfl, o', ho', la, hr, hc', hd'⟩) (nogen_of ho' (by rw [hc']; rfl))
  exact ⟨m, _, g, ρ, h, st, G', rx⟩)

theorem call_enumerate {k : Nat} {src : MV} {p : Nat} (hk : σ[k]? = some (.sem (listIt src p))) (h : K (.obj σ.length) (σ ++ [.sem (enumIt k 0)])) : CallM W n (.type "enumerate") [.obj k] [] σ K KE := by with_unfolding_all exact (fun sc c g ρ loc s vs kvs C G r kr => by
  cases kr
  cases r with | cons r₁ r₂ =>
  cases r₂
  obtain ⟨⟨a, a2⟩, hp, rfl, e2, ⟨cl, dct, dt, sl⟩, ho, la, hr, hcl, hd⟩ := sem_at G hk r₁
  cases e2
  replace hcl : cl = .type "list_iterator" := hcl
  replace hd : dt = .fields #[.ref la, .int p 0] := hd
  subst hcl hd
  refine callType_new F.called_enumerate (by decide) (F.typeCall_enumerate_1 _) (F.newCall_enumerate_1 _) (fun obj => F.args_object_init_2 obj _) F.entry_enumerate_new
    (meets_enum_it a la p dct sl) ⟨ho, ⟨_, Heap.get?_push_size _ rfl, rfl⟩, ?_⟩
  obtain ⟨m', σ', g', ρ', ⟨k', rfl, rfl, rfl⟩, st, G', r'⟩ := newHandle (W := W) (x := enumIt k 0) (K := fun k' σ' => k' = σ.length ∧ σ' = σ ++ [.sem (enumIt k 0)]) G (o := { cls := .type "enumerate", data := .fields #[.none, .bool false, .ref a, rawInt 0, .none, .none] }) rfl rfl (t := s.toks) (fun h' b e => ⟨rfl, _, e, _, .none, hp, rfl⟩) ⟨rfl, rfl⟩
  exact ⟨_, _, g', ρ', h, st, G', r'⟩)

theorem call_range1 {k : Int} (h : K (.fz (rngF 0 k 1)) σ) : CallM W n (.type "range") [.int k] [] σ K KE := by with_unfolding_all exact (fun sc c g ρ loc s vs kvs C G r kr => by
  cases kr
  cases r with | cons r₁ r₂ =>
  cases r₂; cases r₁
  exact call_range_1 (Post.new (m := .fz (rngF 0 k 1)) G rfl (fun g' le e => .fz (x := rngF 0 k 1) ⟨_, _, _, _, rfl, e⟩) h))
theorem call_range3 {a b k : Int} (hc : k ≠ 0) (hk : k.natAbs < 1000000) (h : K (.fz (rngF a b k)) σ) : CallM W n (.type "range") [.int a, .int b, .int k] [] σ K KE := by with_unfolding_all exact (fun sc c g ρ loc s vs kvs C G r kr => by
  cases kr
  cases r with | cons r₁ r₂ =>
  cases r₂ with | cons r₂ r₃ =>
  cases r₃ with | cons r₃ r₄ =>
  cases r₁; cases r₂; cases r₃; cases r₄
  exact call_range_3 hc (Post.new (t := s.toks) (m := .fz (rngF a b k)) G rfl (fun g' le e => .fz (x := rngF a b k) ⟨_, _, _, _, rfl, e⟩) h) (Or.inl (PyProof.noPylong_small (by omega))))
end
end
section
open PySem PySem.W PyProof.Rows
/-- the type of a value -/
def typM (σ : Hp) : MV → Option Value
  | .int _ => some (.type "int")
  | .str _ => some (.type "str")
  | .lst _ => some (.type "list")
  | .tup _ => some (.type "tuple")
  | .dct _ => some (.type "dict")
  | .obj k => match σ[k]? with
    | some (.list _) => some (.type "list")
    | some (.inst _) => some (.ref 527)
    | _ => none
  | _ => none

def notNone : MV → Bool
  | .none => false
  | .junk => false
  | .fz _ => false
  | .stat _ => false
  | _ => true

section
variable {W : Wd} {Kf : Frag} {c : Cx} {g g₁ : Heap} {ρ ρ₁ : Rho} {loc loc' : Loc} {σ σ' : Hp} {s s₁ : Shared} {n : Nat} {sc scope : Scope}
variable {K : MV → Hp → Prop} {KE : Xc → Hp → Prop}

theorem kitx_m (F : Sx W Kf) (G : Good W c g ρ loc σ s) {m : MV} {v t : Value} (ht : typM σ m = some t) (r : VRel g ρ m v) : ∃ H : Heap → Prop, KitX Kf v t H ∧ H s.heap ∧ v ≠ .builtin "__main__.__loader__#opaque" := by
  cases r with
  | int i t' => cases ht; exact ⟨_, kitx_int, trivial, by intro q; cases q⟩
  | str i t' => cases ht; exact ⟨_, kitx_str, trivial, by intro q; cases q⟩
  | lst h _ => cases ht; exact ⟨_, kitx_list, ⟨_, G.gh _ _ h, rfl⟩, by intro q; cases q⟩
  | tup h _ => cases ht; exact ⟨_, kitx_tuple, ⟨_, G.gh _ _ h, rfl⟩, by intro q; cases q⟩
  | dct h _ => cases ht; exact ⟨_, kitx_dict, ⟨_, G.gh _ _ h, rfl⟩, by intro q; cases q⟩
  | obj hp =>
    rename_i k p
    unfold typM at ht
    dsimp only at ht
    split at ht
    · rename_i l e
      cases ht
      cases G.objs _ _ _ hp e with
      | list h _ => exact ⟨_, kitx_list, ⟨_, h, rfl⟩, by intro q; cases q⟩
    · rename_i l e
      cases ht
      obtain ⟨a, d, od, hv, I, _⟩ := inst_at G e ⟨_, rfl⟩ (.obj hp)
      rw [hv]
      obtain ⟨o1, o2, o3, o4, o5⟩ := F.own
      exact ⟨_, kitx_own o1 F.attr.2.1 o2 o3 o4 o5, I, by intro q; cases q⟩
    · cases ht
  | _ => cases ht

theorem call_isi (F : Sx W Kf) {m : MV} {t cv : Value} {b : Bool} (ht : typM σ m = some t) (hT : t ∈ isiTs) (hC : cv ∈ isiCs) (hb : (t == cv) = b) (h : K (.bool b) σ) : CallM W n (.builtin "isinstance") [m, .stat cv] [] σ K KE := by with_unfolding_all exact (fun sc c g ρ loc s vs kvs C G r kr => by
  cases kr
  cases r with | cons r₁ r₂ =>
  cases r₂ with | cons r₂ r₃ =>
  cases r₃; cases r₂
  obtain ⟨H, Z, hH, hne⟩ := kitx_m F G ht r₁
  have e := F.isi t hT cv hC
  rw [hb] at e
  exact kia_one Z (Frag.In.keeps F.inK G.baseIn) hH e hne fun tk => Post.nowT G (.bool _) h)

theorem kitAny_of (F : Sx W Kf) {t : Value} (hT : t ∈ isiTs) : ∀ {cs : List Value}, (∀ c ∈ cs, c ∈ isiCs) → kitAny Kf t cs = some (cs.any (t == ·))
  | [], _ => rfl
  | cv :: cs, h => by
    unfold kitAny
    rw [F.isi t hT cv (h _ (.head _))]
    cases e : (t == cv) with
    | true => simp [e]
    | false => simp only [List.any_cons, e, Bool.false_or]; exact kitAny_of F hT fun c hc => h c (.tail _ hc)

theorem call_isi_tup (F : Sx W Kf) {m : MV} {t : Value} {cs : List Value} {b : Bool} (ht : typM σ m = some t) (hT : t ∈ isiTs) (hC : ∀ c ∈ cs, c ∈ isiCs) (hb : cs.any (t == ·) = b) (h : K (.bool b) σ) : CallM W n (.builtin "isinstance") [m, .tup (cs.map .stat)] [] σ K KE := by with_unfolding_all exact (fun sc c g ρ loc s vs kvs C G r kr => by
  cases kr
  cases r with | cons r₁ r₂ =>
  cases r₂ with | cons r₂ r₃ =>
  cases r₃
  obtain ⟨a, vs, n', rfl, ha, hvs⟩ := tup_at G r₂
  obtain ⟨H, Z, hH, hne⟩ := kitx_m F G ht r₁
  have hvs' : vs = cs := by
    clear hC hb ha r₂
    induction cs generalizing vs with
    | nil => cases hvs; rfl
    | cons cv cs ih => cases hvs with | cons h hs => cases h; rw [ih _ hs]
  subst hvs'
  have e := kitAny_of F hT hC
  rw [hb] at e
  exact kia_tup Z (Frag.In.keeps F.inK G.baseIn) hH ha e hne fun tk => Post.nowT G (.bool _) h)

/-! is -/
theorem beq_none {m : MV} {v : Value} (hm : notNone m = true) (r : VRel g ρ m v) : (v == Value.none) = false ∧ plainIs v .none = true := by
  cases r <;> first | exact ⟨rfl, rfl⟩ | exact absurd hm Bool.false_ne_true
theorem op_isnot_none {m : MV} (hm : notNone m = true) (h : K (.bool true) σ) : Op2 W n (compareOp .IsNot) m .none σ K KE := by with_unfolding_all exact (fun sc c g ρ loc s v₁ v₂ C G r₁ r₂ => by
  cases r₂
  obtain ⟨e, p⟩ := beq_none hm r₁
  exact wpAny_isNot_plain p (by rw [e]; exact Post.now G (.bool _) h))
theorem op_isnot_none' (h : K (.bool false) σ) : Op2 W n (compareOp .IsNot) .none .none σ K KE := by with_unfolding_all exact (fun sc c g ρ loc s v₁ v₂ C G r₁ r₂ => by
  cases r₁; cases r₂
  exact wpAny_isNot_plain rfl (Post.now G (.bool false) h))
theorem op_is_none {m : MV} (hm : notNone m = true) (h : K (.bool false) σ) : Op2 W n (compareOp .Is) m .none σ K KE := by with_unfolding_all exact (fun sc c g ρ loc s v₁ v₂ C G r₁ r₂ => by
  cases r₂
  obtain ⟨e, p⟩ := beq_none hm r₁
  exact wpAny_is_plain p (by rw [e]; exact Post.now G (.bool _) h))
theorem op_isnot_self {a : Addr} (h : K (.bool false) σ) : Op2 W n (compareOp .IsNot) (.stat (.ref a)) (.stat (.ref a)) σ K KE := by with_unfolding_all exact (fun sc c g ρ loc s v₁ v₂ C G r₁ r₂ => by
  cases r₁; cases r₂
  exact wpAny_isNot_ref_self (Post.now G (.bool false) h))

/-! truth -/
theorem tst_list {m : MV} {l : List MV} {K : Bool → Hp → Prop} (hl : asList σ m = some l) (hz : l.length ≤ 100000) (h : K (!l.isEmpty) σ) : Tst W n m σ K KE := by with_unfolding_all exact (fun sc c g ρ loc s v C G r => by
  obtain ⟨a, vs, n', rfl, ha, hvs⟩ := list_at G hl r
  have e : (!vs.toArray.isEmpty) = !l.isEmpty := by
    have := hvs.length
    cases l <;> cases vs <;> simp at this ⊢
  refine wpAny_truthy_list (isList_of ha) (by rw [List.size_toArray, ← hvs.length]; omega) ?_
  rw [e]
  exact ⟨σ, g, ρ, h, .tok _, G.tok _⟩)

/-! methods of lists and texts -/
theorem getM_append {m : MV} {l : List MV} (hl : asList σ m = some l) : GetM W m (Str.ofString "append") σ (.builtin "list.append") := by with_unfolding_all exact (fun n sc c g ρ loc s v pl C G r A E Q h => by
  obtain ⟨a, vs, n', rfl, ha, hvs⟩ := list_at G hl r
  exact Calls.getMethod_list_append ha rfl rfl h)
theorem call_append {d : Nat} {items : List MV} {m : MV} (hd : σ[d]? = some (.list items)) (hz : items.length ≤ 1000) (h : K .none (σ.set d (.list (items ++ [m])))) : CallM W n (.builtin "list.append") [.obj d, m] [] σ K KE := by with_unfolding_all exact (fun sc c g ρ loc s vs kvs C G r kr => by
  cases kr
  cases r with | cons r₁ r₂ =>
  cases r₂ with | cons r₂ r₃ =>
  cases r₃
  refine wpAny_mono (append_ok G hd hz r₁ r₂) (fun v s' q => ?_) fun _ _ x => x
  obtain ⟨m', σ', g', ρ', ⟨rfl, rfl⟩, st, G', r'⟩ := q
  exact ⟨_, _, g', ρ', h, st, G', r'⟩)

/-! lists joined -/
theorem op_add_lists {a b : MV} {l l' : List MV} (ha : asList σ a = some l) (hb : asList σ b = some l') (hz : l.length + l'.length ≤ 100000) (h : K (.lst (l ++ l')) σ) : Op2 W n (binaryOp .Add) a b σ K KE := by with_unfolding_all exact (fun sc c g ρ loc s v₁ v₂ C G r₁ r₂ => by
  obtain ⟨x, vs, n₁, rfl, hx, hvs⟩ := list_at G ha r₁
  obtain ⟨y, ws, n₂, rfl, hy, hws⟩ := list_at G hb r₂
  have e : vs.toArray ++ ws.toArray = (vs ++ ws).toArray := by simp
  have hsz : vs.toArray.size + ws.toArray.size ≤ sizeLine := by
    have := hvs.length; have := hws.length
    rw [List.size_toArray, List.size_toArray, sizeLine_eq]; omega
  refine concat_meets ⟨_, hx, rfl⟩ ⟨_, hy, rfl⟩ noFill_list_add seq_list_add PySem.F.slot_list_add PySem.F.entry_list_add (PySem.F.args_list_add_2 _ _) (list_addW x y vs.toArray ws.toArray n₁ n₂ none none #[] #[] hsz) ⟨hx, hy, ?_⟩
  rw [e]
  exact Post.new (t := s.toks) G rfl (fun g' le q => .lst q ((hvs.append hws).mono le (RLe.refl _))) h)
end
end
section
open PySem PySem.W PyProof.Rows
theorem keep_fn {W : Wd} {Kf : Frag} (F : Sx W Kf) {f : Value} (h : f ∈ ([.ref 527, .ref 81, .ref 543, .ref 550, .ref 555, .ref 560, .ref 567, .ref 71] : List Value)) : KeepOk W f := by with_unfolding_all exact (keep_K F.toSf (F.keep f h))


end
section
end
local macro_rules | `(tactic| walk_at "mv_keep") => `(tactic| first
  | exact keep_builtin _
  | exact keep_type _
  | exact keep_fn (by assumption) (by simp)
  | exact keep_K (Sx.toSf (by assumption)) (Sf.meth (Sx.toSf (by assumption)) _ _ (by simp [hdrMeths])).2.2.2)

local macro_rules | `(tactic| walk_at "mv1") => `(tactic| first
  | (show EvP _ _ _ _ _ _ _ _; first
    | (show EvP _ _ _ (.Name _ _) _ _ _ _; first
      | refine ev_local rfl rfl rfl ?_
      | refine ev_builtin (Sx.toSf (by assumption)) rfl rfl rfl ?_
      | refine ev_global (Sx.toSf (by assumption)) rfl rfl rfl ?_)
    | (show EvP _ _ _ (.Constant _ _ _) _ _ _ _; first
      | refine ev_str ?_
      | refine ev_int ?_
      | refine ev_none ?_
      | refine ev_bool ?_)
    | (show EvP _ _ _ (.Call _ _ _ _) _ _ _ _; first
      | refine ev_mcall (fun _ _ => rfl) (fun _ => rfl) (by decide) rfl ?_
      | refine ev_call (fun _ _ => rfl) (fun _ => rfl) ?_)
    | refine ev_tuple ?_
    | refine ev_ifexp ?_
    | refine ev_binop ?_
    | refine ev_compare ?_ rfl
    | refine ev_attr (fun _ => rfl) ?_
    | refine ev_sub ?_)
  | (show EvsP _ _ _ _ _ _ _ _; first
    | refine evs_nil ?_
    | refine evs_cons ?_ (fun _ => rfl))
  | (show ExsP _ _ _ _ _ _ _ _; first
    | refine exs_nil ?_
    | refine exs_cons ?_)
  | (show TsP _ _ _ _ _ _ _ _; first
    | refine ts_compare ?_ rfl
    | refine ts_not ?_
    | refine ts_and_nil ?_
    | refine ts_or_nil ?_
    | refine ts_and ?_
    | refine ts_or ?_
    | refine ts_val ?_ (fun _ _ => rfl))
  | (show ExP _ _ _ _ _ _ _ _; first
    | refine ex_return ?_
    | refine ex_return_none ?_
    | refine ex_pass ?_
    | refine ex_break ?_
    | refine ex_if ?_
    | refine ex_assign ?_ (fun _ _ => rfl) (fun _ _ => rfl) (fun _ => rfl)
    | refine ex_expr ?_ (fun _ => rfl)
    | refine ex_for ?_ (fun _ _ => rfl))
  | refine as_name rfl ?_)

local macro_rules | `(tactic| walk_at "mv") => `(tactic| repeat (walk_at "mv1"; try dsimp only))
section
open PySem PySem.W PyProof.Rows
abbrev Row := Str × Str
def rowM (r : Row) : MV := .tup [.str r.1, .str r.2]
def rowsM (rows : List Row) : List MV := rows.map rowM
theorem rowsM_len (rows : List Row) : (rowsM rows).length = rows.length := by simp [rowsM]
theorem rowsM_get (rows : List Row) (i : Nat) : (rowsM rows)[i]? = (rows[i]?).map rowM := by simp [rowsM]
theorem rowsM_append (a b : List Row) : rowsM (a ++ b) = rowsM a ++ rowsM b := by simp [rowsM]

theorem ok_row (k : Nat) (r : Row) : (rowM r).ok k = true := by simp [rowM, MV.ok, oksL]
theorem ok_rows (k : Nat) : ∀ rows : List Row, oksL k (rowsM rows) = true
  | [] => by simp [rowsM, oksL]
  | r :: rs => by
    have := ok_rows k rs
    simp only [rowsM, List.map_cons, oksL, Bool.and_eq_true]
    exact ⟨ok_row k r, this⟩

/-- every handle that is named is there -/
def wf (σ : Hp) : Prop := ∀ k, σ.length ≤ k → σ.all (·.ok k) = true
theorem wf.get {σ : Hp} (h : wf σ) {i : Nat} {o : MO} (e : σ[i]? = some o) {k : Nat} (hk : σ.length ≤ k) : o.ok k = true := List.all_eq_true.mp (h k hk) o (List.mem_of_getElem? e)
theorem wf.set {σ : Hp} (h : wf σ) {i : Nat} {o : MO} (ho : ∀ k, σ.length ≤ k → o.ok k = true) : wf (σ.set i o) := fun k hk => by
  rw [List.length_set] at hk
  exact List.all_eq_true.mpr fun x hx => by
    rcases List.mem_or_eq_of_mem_set hx with q | q
    · exact List.all_eq_true.mp (h k hk) x q
    · rw [q]; exact ho k hk
theorem wf.app {σ : Hp} (h : wf σ) {o : MO} (ho : ∀ k, σ.length < k → o.ok k = true) : wf (σ ++ [o]) := fun k hk => by
  rw [List.length_append, List.length_singleton] at hk
  rw [List.all_append, h k (by omega), Bool.true_and]
  simp [ho k (by omega)]
theorem wf.rows {σ : Hp} (h : wf σ) {i : Nat} (rows : List Row) : wf (σ.set i (.list (rowsM rows))) := h.set fun k _ => ok_rows k rows

theorem cut_same {σ ext : Hp} {K : MV → Hp → Prop} {m : MV} (h : wf σ) (hm : m.ok σ.length = true) (k : K m σ) : Cut σ.length K m (σ ++ ext) :=
  ⟨σ.length, Nat.le_refl _, hm, by rw [List.take_left]; exact h _ (Nat.le_refl _), by rw [List.take_left]; exact k⟩
theorem cutx_same {σ ext : Hp} {K : Xc → Hp → Prop} {x : Xc} (h : wf σ) (k : K x σ) : CutX σ.length K x (σ ++ ext) :=
  ⟨σ.length, Nat.le_refl _, by rw [List.take_left]; exact h _ (Nat.le_refl _), by rw [List.take_left]; exact k⟩
theorem cut_at {σ₀ σ ext : Hp} {K : MV → Hp → Prop} {m : MV} (e : σ₀.length = σ.length) (h : wf σ) (hm : m.ok σ.length = true) (k : K m σ) : Cut σ₀.length K m (σ ++ ext) := by rw [e]; exact cut_same h hm k
theorem cutx_at {σ₀ σ ext : Hp} {K : Xc → Hp → Prop} {x : Xc} (e : σ₀.length = σ.length) (h : wf σ) (k : K x σ) : CutX σ₀.length K x (σ ++ ext) := by rw [e]; exact cutx_same h k

theorem less_full {k₀ : Nat} {I : Loc → Hp → Prop} {loc loc' : Loc} {σ : Hp} (hk : k₀ ≤ σ.length) (hsub : SubL loc' loc) (hloc : locOk σ.length loc' = true) (hw : wf σ) (hi : I loc' σ) : Less k₀ I loc σ :=
  ⟨σ.length, loc', hk, hsub, hloc, by rw [List.take_length]; exact hw _ (Nat.le_refl _), by rw [List.take_length]; exact hi⟩
theorem sub_cons {x : Str} {m : MV} {loc loc' : Loc} (hx : loc'.lookup x = none) (h : SubL loc' loc) : SubL loc' ((x, m) :: loc) := fun y v e => by
  rw [List.lookup_cons]
  by_cases q : (y == x) = true
  · rw [beq_iff_eq.mp q, hx] at e; cases e
  · rw [Bool.eq_false_iff.mpr q]; exact h y v e

theorem lookup_app {σ ext : Hp} {i : Nat} {o : MO} (e : σ[i]? = some o) : (σ ++ ext)[i]? = some o := by
  rw [List.getElem?_append_left (List.getElem?_eq_some_iff.mp e).1]; exact e
theorem lookup_last (σ : Hp) (x : MO) : (σ ++ [x])[σ.length]? = some x := by simp
theorem set_last (σ : Hp) (x y : MO) : (σ ++ [x]).set σ.length y = σ ++ [y] := by simp
theorem as_obj {σ : Hp} {l : Nat} {vs : List MV} (e : σ[l]? = some (.list vs)) : asList σ (.obj l) = some vs := by simp [asList, e]

/-- what a row's text may be -/
def Short (rows : List Row) : Prop := ∀ r ∈ rows, r.1.length ≤ 100000 ∧ r.2.length ≤ 100000
def low (x : Str) : Str := Txt.lower x

/-- an object's rows -/
structure HasRows (σ : Hp) (h l : Nat) (rows : List Row) : Prop where
  inst : σ[h]? = some (.inst (some l))
  list : σ[l]? = some (.list (rowsM rows))
  short : Short rows
  few : rows.length ≤ 1000
theorem HasRows.app {σ : Hp} {h l : Nat} {rows : List Row} (H : HasRows σ h l rows) (ext : Hp) : HasRows (σ ++ ext) h l rows := ⟨lookup_app H.inst, lookup_app H.list, H.short, H.few⟩
end
section
open PySem PySem.W PyProof.Rows
section
variable {W : Wd} {Kf : Frag} {σ : Hp} {n : Nat} {K : MV → Hp → Prop} {KE : Xc → Hp → Prop}

def findRow (key : Str) (rows : List Row) : Option Row := rows.find? fun r => low r.1 == low key

theorem find_at {key : Str} {rows : List Row} {p : Nat} {r : Row} (hno : ∀ r ∈ rows.take p, (low r.1 == low key) = false) (hr : rows[p]? = some r) (hb : (low r.1 == low key) = true) : findRow key rows = some r := by
  induction rows generalizing p with
  | nil => cases hr
  | cons x rows ih =>
    unfold findRow
    cases p with
    | zero => cases hr; rw [List.find?_cons, hb]
    | succ p =>
      rw [List.find?_cons, hno x (by simp)]
      exact ih (fun r' h => hno r' (by simp [h])) hr

theorem c_get_key (F : Sx W Kf) (D : FnD W 309 (hdrStmt 2)) (hn : n ≤ 40) {h l : Nat} {rows : List Row} {key : Str} (hkz : key.length ≤ 100000) (H : HasRows σ h l rows) (hw : wf σ)
    (hs : ∀ r, findRow key rows = some r → K (.str r.2) σ) (he : findRow key rows = none → KE .key σ) :
    CallM W n (.ref 309) [.obj h, .str key] [] σ K KE := by
  refine call_cd (by omega) (CdP.cut ?_)
  obtain ⟨r, D⟩ := D
  refine fn_call (body := bodyOf (hdrStmt 2)) D F.lim (by omega) rfl ⟨rfl, rfl, rfl⟩ ?_
  refine bd_pos (ps := ["self", "key"]) (fun vs hv => ?_) rfl ?_
  · match vs, hv with
    | [a, b], _ => rfl
  refine ⟨rfl, ?_⟩
  walk_at "mv"
  refine ⟨_, getM_lower, keep_builtin _, ?_⟩
  walk_at "mv"
  refine call_lower hkz ?_
  walk_at "mv"
  refine op_list_attr F.toSf H.inst ?_
  refine iter_list (m := .obj l) (l := rowsM rows) (as_obj H.list) ?_
  refine loop_ind (fun m loc' σ' => ∃ p, m = rows.length - p ∧ p ≤ rows.length ∧ loc' = _ ∧ σ' = σ ++ [.sem (listIt (.obj l) p)] ∧ ∀ r ∈ rows.take p, (low r.1 == low key) = false) ?_ rows.length ⟨0, rfl, Nat.zero_le _, rfl, rfl, by simp⟩
  rintro m loc' σ' ⟨p, rfl, hp, rfl, rfl, hno⟩
  refine nxt_list (by omega) (lookup_last _ _) (as_obj (lookup_app H.list)) (fun mv hm => ?_) (fun hm => ?_)
  · rw [rowsM_get, Option.map_eq_some_iff] at hm
    obtain ⟨r, hr, rfl⟩ := hm
    rw [set_last]
    have hsr := H.short r (List.mem_of_getElem? hr)
    refine as_tuple (by omega) rfl (fun _ => ⟨rfl, rfl⟩) ?_
    refine ass_cons ?_ (fun _ => rfl)
    refine as_name rfl ?_
    refine ass_cons ?_ (fun _ => rfl)
    refine as_name rfl ?_
    refine ass_nil ?_
    walk_at "mv"
    refine ⟨_, getM_lower, keep_builtin _, ?_⟩
    walk_at "mv"
    refine call_lower hsr.1 ?_
    walk_at "mv"
    refine op_eq_str ?_
    refine tst_bool ?_
    refine ⟨fun hb => ?_, fun hb => ?_⟩
    · walk_at "mv"
      refine cut_same hw rfl (hs r ?_)
      exact find_at hno hr hb
    · walk_at "mv"
      refine ⟨rows.length - (p + 1), by have := (List.getElem?_eq_some_iff.mp hr).1; omega, ?_⟩
      refine less_full (by simp) (sub_cons rfl (sub_cons rfl (SubL.refl _))) ?_ (hw.app fun k hk => ?_) ⟨p + 1, rfl, by have := (List.getElem?_eq_some_iff.mp hr).1; omega, rfl, rfl, ?_⟩
      · have := (List.getElem?_eq_some_iff.mp H.inst).1
        simp [locOk, MV.ok]; omega
      · have := (List.getElem?_eq_some_iff.mp H.list).1
        simp [MO.ok, listIt, objSem, MV.ok]; omega
      · intro r' hr'
        rw [List.take_add_one, hr, List.mem_append] at hr'
        rcases hr' with q | q
        · exact hno r' q
        · simp at q; subst q; exact hb
  · walk_at "mv"
    refine ex_raise_key F (by omega) rfl rfl rfl (fun _ _ => rfl) ?_
    walk_at "mv"
    refine ⟨by simp, ?_⟩
    rw [set_last]
    refine cutx_same hw (he ?_)
    rw [rowsM_get, Option.map_eq_none_iff, List.getElem?_eq_none_iff] at hm
    rw [List.take_of_length_le hm] at hno
    exact List.find?_eq_none.mpr fun r hr => by simpa using hno r hr
end
end
section
open PySem PySem.W PyProof.Rows
section
variable {prog : Program} {w : World} {A : Around} {E : Value → Shared → Prop} {s : Shared}
theorem listAll_at {b : Addr} {ob : Obj} {new : Array Value} {k : Nat} {msg : String} {Q : Array Value → Shared → Prop} (hb : s.heap.get? b = some ob) (hc : ob.cls = .type "list") (hd : ob.data = .seq new k) (h : Q new s) :
    wpAny (model prog w) A (Builtin.List.listAllItems (.ref b) msg) Q E s := by
  unfold Builtin.List.listAllItems
  refine wpAny_bind (wpAny_typeOf (T := "list") ⟨ob, hb, hc⟩ ?_)
  rw [if_pos (by decide)]
  exact wpAny_bind (wpAny_seqItems hb hd (wpAny_pure h))

theorem setItem_slice {l b sl : Addr} {items new : Array Value} {n k : Nat} {vl vu : Value} {lo hi : Option Int} {Q : Unit → Shared → Prop} (hl : s.heap.get? l = some { cls := .type "list", data := .seq items n })
    (hb : s.heap.get? b = some { cls := .type "list", data := .seq new k }) (hs : s.heap.IsSliceOf sl vl vu .none) (pl : IsPart vl lo) (pu : IsPart vu hi) (hsz : items.size + new.size ≤ sizeLine)
    (hQ : ∀ h' n', h'.get? l = some { cls := .type "list", data := .seq (items.extract 0 (sliceBounds lo hi none items.size).1.toNat ++ new ++ items.extract (max (sliceBounds lo hi none items.size).1 (sliceBounds lo hi none items.size).2.1).toNat items.size) n' } → Heap.SameBut l s.heap h' → Q () { s with heap := h' }) :
    wpAny (model prog w) A (setItem (.ref l) (.ref sl) (.ref b)) Q E s := by
  have il : s.heap.IsList l items := ⟨_, hl, rfl, _, rfl⟩
  obtain ⟨os, hos, hcs, hds⟩ := id hs
  have hTs : s.TypeIs (.ref sl) "slice" := ⟨os, hos, hcs⟩
  unfold setItem
  try with_reducible refine wpAny_holding ?_
  first | refine wpAny_bind (wpAny_pure ?_) | skip
  refine wpAny_bind (wpAny_sequenceKey il.typeIs (by decide) ?_)
  refine wpAny_bind (wpAny_callSpecial?_slot (name := Str.ofString "__setitem__") il.typeIs slot_list_setitem
    (wpAny_call_entry slot_list_setitem il.typeIs entry_list_setitem ?_ (args_list_setitem _ _ _)))
  show wpAny _ _ (Builtin.List.listSubscript? (.ref sl) >>= _) _ _ s
  refine wpAny_bind ?_
  unfold Builtin.List.listSubscript?
  refine wpAny_bind (wpAny_specialOf hTs slice_no_index ?_)
  simp only [Option.isNone_none, if_true]
  refine wpAny_pure ?_
  show wpAny _ _ (typeOf (.ref sl) >>= _) _ _ s
  refine wpAny_bind (wpAny_typeOf hTs ?_)
  rw [if_neg (by decide)]
  rw [listSliceParts_eq]
  refine wpAny_bind (wpAny_bind (wpAny_field hos hds (x := .none) rfl (wpAny_bind (wpAny_listPart .none ?_))))
  rw [if_neg (by simp [rawPart, rawInt])]
  refine wpAny_bind (wpAny_field hos hds (x := vl) rfl (wpAny_bind (wpAny_listPart pl ?_)))
  refine wpAny_bind (wpAny_field hos hds (x := vu) rfl (wpAny_bind (wpAny_listPart pu (wpAny_pure ?_))))
  have hi' : wpAny (model prog w) A.in1 (Builtin.List.listItems (.ref b)) (fun r s' => r = new ∧ s' = s) E s := by
    unfold Builtin.List.listItems
    exact wpAny_bind (wpAny_seqItems hb rfl (wpAny_pure ⟨rfl, rfl⟩))
  have ha' : wpAny (model prog w) A.in1 (Builtin.List.listAllItems (.ref b) "must assign iterable to extended slice") (fun r s' => r = new ∧ s' = s) E s := listAll_at hb rfl rfl ⟨rfl, rfl⟩
  obtain ⟨n', hd'⟩ := Obj.data_mapSeq (o := { cls := .type "list", data := .seq items n }) rfl (fun xs => xs.extract 0 (sliceBounds lo hi none items.size).1.toNat ++ new ++ xs.extract (max (sliceBounds lo hi none items.size).1 (sliceBounds lo hi none items.size).2.1).toNat xs.size)
  have step1 : (sliceBounds lo hi none items.size).2.2 = 1 := rfl
  split
  all_goals
    first | refine wpAny_bind (wpAny_mono hi' (fun r s' q => ?_) fun _ _ x => x) | refine wpAny_bind (wpAny_mono ha' (fun r s' q => ?_) fun _ _ x => x)
    obtain ⟨rfl, rfl⟩ := q
    refine wpAny_bind (m := Builtin.List.listItems (.ref l)) ?_
    unfold Builtin.List.listItems
    refine wpAny_bind (wpAny_seqItems hl rfl (wpAny_pure ?_))
    refine wpAny_bind (wpAny_of_eq (sliceIndices_raw lo hi none items.size (by simp)) ?_)
    rw [if_pos (by rw [step1]; rfl)]
    refine wpAny_bind (wpAny_rule ?_)
    rw [if_neg (by unfold Builtin.List.listTooLong; simp; omega)]
    refine wpAny_bind ?_
    unfold Builtin.List.listUpdate
    refine wpAny_updateSeq hl rfl ?_
    exact wpAny_bind (wpAny_letGo (wpAny_pure ⟨.none, rfl, wpAny_pure (hQ _ _ ((Heap.get?_update_self _ hl (Obj.isFreed_of_seq hd')).trans rfl) (Heap.SameBut.update ..))⟩))
end

/-- a slice object -/
def sliF (lo hi : Option Int) : FzObj := ⟨fun g v => ∃ a vl vu, v = .ref a ∧ g.IsSliceOf a vl vu .none ∧ IsPart vl lo ∧ IsPart vu hi, fun k ⟨a, vl, vu, e, ⟨o, h, r⟩, p⟩ => ⟨a, vl, vu, e, ⟨o, k _ _ h, r⟩, p⟩⟩

section
variable {W : Wd} {Kf : Frag} {c : Cx} {g g₁ : Heap} {ρ ρ₁ : Rho} {loc loc' : Loc} {σ σ' : Hp} {s s₁ : Shared} {n : Nat} {sc scope : Scope}
variable {K : MV → Hp → Prop} {KE : Xc → Hp → Prop}

/-- a bound of a slice -/
def partOf : MV → Option (Option Int)
  | .none => some none
  | .int i => some (some i)
  | _ => none
theorem part_of {m : MV} {v : Value} {p : Option Int} (h : partOf m = some p) (r : VRel g ρ m v) : IsPart v p := by
  cases r <;> first | (cases h; constructor) | (exact nomatch h)

@[irreducible] def EvPO (W : Wd) (n : Nat) (sc : Scope) (e : Option Expr) (loc : Loc) (σ : Hp) (K : MV → Hp → Prop) (KE : Xc → Hp → Prop) : Prop :=
  ∀ c g ρ s, COk W n sc c → Good W c g ρ loc σ s → wpAny (Mo W) c.A (valueOrNone (evalOpt e c.env)) (Post W c g ρ loc s K) (XPost W c g ρ loc s KE) s
theorem evo_none (h : K .none σ) : EvPO W n sc none loc σ K KE := by with_unfolding_all exact (fun c g ρ s C G => wpAny_pure (Post.now G .none h))
theorem evo_some {e : Expr} (h : EvP W n sc e loc σ K KE) : EvPO W n sc (some e) loc σ K KE := by with_unfolding_all exact (fun c g ρ s C G => h c g ρ s C G)

theorem ev_slice {lo hi : Option Expr} {pos : Pos} (h : EvPO W n sc lo loc σ (fun ml σ₁ => EvPO W n sc hi loc σ₁ (fun mu σ₂ => ∃ pl pu, partOf ml = some pl ∧ partOf mu = some pu ∧ K (.fz (sliF pl pu)) σ₂) KE) KE) : EvP W n sc (.Slice lo hi none pos) loc σ K KE := by with_unfolding_all exact (fun c g ρ s C G => by
  show wpAny _ _ (do
    let l ← valueOrNone (evalOpt lo c.env)
    let u ← holding [l] (valueOrNone (evalOpt hi c.env))
    let st ← holding [l, u] (valueOrNone (evalOpt none c.env))
    newFields "slice" [l, u, st]) _ _ s
  refine wpAny_bind (wpAny_mono (h c g ρ s C G) (fun vl s₁ q => ?_) fun _ _ x => x)
  obtain ⟨m₁, σ₁, g₁, ρ₁, k₁, st₁, G₁, r₁⟩ := q
  refine wpAny_bind (wpAny_holding (wpAny_mono (k₁ c g₁ ρ₁ s₁ C G₁) (fun vu s₂ q => ?_) fun _ _ x => x.after st₁))
  obtain ⟨m₂, σ₂, g₂, ρ₂, ⟨pl, pu, hl, hu, k₂⟩, st₂, G₂, r₂⟩ := q
  refine wpAny_bind (wpAny_holding (wpAny_pure ?_))
  unfold newFields
  refine wpAny_newObj_type ?_ (by size_fits)
  refine Post.after (st₁.trans st₂) ?_
  exact Post.new (t := s₂.toks) (m := .fz (sliF pl pu)) G₂ rfl (fun g' le e => .fz (x := sliF pl pu) ⟨_, _, _, rfl, ⟨_, e, rfl, rfl⟩, part_of hl (r₁.mono st₂.ge st₂.re), part_of hu r₂⟩) k₂)

theorem take_n {α : Type} (l : List α) (k : Nat) : (l.toArray.toList.take k) = l.take k := by simp

theorem sub_list_slice {mo : MV} {l l' : List MV} {lo hi : Option Int} {a b : Option Expr} {pos : Pos} (hl : asList σ mo = some l) (hz : l.length ≤ 100000)
    (hp : ∀ vs : List Value, vs.length = l.length → ∃ i j : Nat, slicePick vs.toArray lo hi none = ((vs.drop i).take j).toArray ∧ l' = (l.drop i).take j) (h : K (.lst l') σ) :
    Op2 W n (fun x y => do subscripted (.Slice a b none pos) (← getitemInPython x) x y) mo (.fz (sliF lo hi)) σ K KE := by with_unfolding_all exact (fun sc c g ρ loc s v₁ v₂ C G r₁ r₂ => by
  cases r₂ with
  | fz q =>
  obtain ⟨sl, vl, vu, rfl, hs, pl, pu⟩ := q
  obtain ⟨x, vs, n', rfl, hx, hvs⟩ := list_at G hl r₁
  have il := isList_of hx
  obtain ⟨os, hos, hr⟩ := hs
  have hs' : s.heap.IsSliceOf sl vl vu .none := ⟨os, G.gh _ _ hos, hr⟩
  refine wpAny_bind ?_
  rw [getitemInPython_of_ne il.typeIs.not_modules]
  refine wpAny_bind (wpAny_specialOf il.typeIs slot_list_getitem.lookup (wpAny_pure ?_))
  show wpAny _ _ (operate [.ref sl, .ref x] (getItem (.ref x) (.ref sl))) _ _ _
  refine wpAny_operating (wpAny_getItem_list_slice il hs' pl pu .none (by simp) ?_ (by rw [List.size_toArray, ← hvs.length, sizeLine_eq]; omega))
  obtain ⟨i, j, e1, e2⟩ := hp vs hvs.length.symm
  rw [e1]
  have sub : ∀ (i j : Nat) {ms : List MV} {ws : List Value}, VRels g ρ ms ws → VRels g ρ ((ms.drop i).take j) ((ws.drop i).take j) := by
    intro i j ms ws hr
    induction i generalizing ms ws with
    | zero =>
      induction j generalizing ms ws with
      | zero => simp; exact .nil
      | succ j ih => cases hr with
        | nil => simp; exact .nil
        | cons h hs => simpa using VRels.cons h (by simpa using ih hs)
    | succ i ih => cases hr with
      | nil => simp; exact .nil
      | cons h hs => simpa using ih hs
  subst e2
  exact Post.new (t := s.toks) G rfl (fun g' le q => .lst q ((sub i j hvs).mono le (RLe.refl _))) h)
end
end
section
open PySem PySem.W PyProof.Rows
section
variable {prog : Program} {w : World} {A : Around} {E : Value → Shared → Prop} {s : Shared}
theorem setItem_int {l : Addr} {items : Array Value} {n : Nat} {k : Int} {t : Tok} {v : Value} {Q : Unit → Shared → Prop} (ho : s.heap.get? l = some { cls := .type "list", data := .seq items n })
    (h0 : 0 ≤ k) (hfit : k < 2 ^ 63) (hn : k < items.size)
    (hQ : ∀ h' n', h'.get? l = some { cls := .type "list", data := .seq (items.setIfInBounds k.toNat v) n' } → Heap.SameBut l s.heap h' → Q () { s with heap := h' }) :
    wpAny (model prog w) A (setItem (.ref l) (.int k t) v) Q E s := by
  have hl : s.heap.IsList l items := ⟨_, ho, rfl, _, rfl⟩
  unfold setItem
  try with_reducible refine wpAny_holding ?_
  first | refine wpAny_bind (wpAny_pure ?_) | skip
  refine wpAny_bind (wpAny_sequenceKey hl.typeIs (by decide) ?_)
  refine wpAny_bind (wpAny_callSpecial?_slot (name := Str.ofString "__setitem__") hl.typeIs slot_list_setitem
    (wpAny_call_entry slot_list_setitem hl.typeIs entry_list_setitem ?_ (args_list_setitem _ _ _)))
  show wpAny _ _ (Builtin.List.listSubscript? (.int k t) >>= _) _ _ s
  refine wpAny_bind (wpAny_listSubscript_int (fitsIndex_of h0 hfit) ?_)
  clear hfit
  obtain ⟨j, rfl⟩ := Int.eq_ofNat_of_zero_le h0
  have hj : j < items.size := by omega
  have hx' : items[j]? = some items[j] := Array.getElem?_eq_getElem hj
  show wpAny _ _ ((seqItemAt l j >>= fun r => pure (r.map (j, ·))) >>= _) _ _ s
  refine wpAny_bind (wpAny_bind (wpAny_seqItemAt ho rfl (wpAny_pure ?_)))
  rw [hx']
  show wpAny _ _ (setSeqItemAt l j v >>= _) _ _ s
  obtain ⟨n', hd'⟩ := Obj.data_mapSeq (o := { cls := .type "list", data := .seq items n }) rfl (·.setIfInBounds j v)
  refine wpAny_bind (wpAny_setSeqItemAt ho rfl ?_)
  have fin := fun n'' e => hQ (s.heap.update l (Obj.mapSeq (·.setIfInBounds j v))) n'' e (Heap.SameBut.update ..)
  have fin' := fin _ ((Heap.get?_update_self _ ho (Obj.isFreed_of_seq hd')).trans rfl)
  first
    | exact wpAny_bind (wpAny_pure (wpAny_pure ⟨.none, rfl, wpAny_pure fin'⟩))
    | exact wpAny_pure ⟨.none, rfl, wpAny_pure fin'⟩
end

section
variable {W : Wd} {Kf : Frag} {c : Cx} {g g₁ : Heap} {ρ ρ₁ : Rho} {loc loc' : Loc} {σ σ' : Hp} {s s₁ : Shared} {n : Nat} {sc scope : Scope}
variable {K : MV → Hp → Prop} {KE : Xc → Hp → Prop}

theorem VRels.take' : ∀ (j : Nat) {ms : List MV} {ws : List Value}, VRels g ρ ms ws → VRels g ρ (ms.take j) (ws.take j)
  | 0, _, _, _ => by simp; exact .nil
  | j + 1, _, _, .nil => by simp; exact .nil
  | j + 1, _, _, .cons h hs => by simpa using VRels.cons h (VRels.take' j hs)
theorem VRels.set' : ∀ (j : Nat) {ms : List MV} {ws : List Value} {m : MV} {v : Value}, VRels g ρ ms ws → VRel g ρ m v → VRels g ρ (ms.set j m) (ws.set j v)
  | _, _, _, _, _, .nil, _ => by simp; exact .nil
  | 0, _, _, _, _, .cons h hs, r => .cons r hs
  | j + 1, _, _, _, _, .cons h hs, r => .cons h (VRels.set' j hs r)

/-- the tail of a list replaced -/
theorem st_slice {d : Nat} {l new : List MV} {b : MV} {lo : Option Int} {i : Nat} {K : Hp → Prop} (hd : σ[d]? = some (.list l)) (hb : asList σ b = some new) (hz : l.length + new.length ≤ 100000)
    (hi : (lo = none ∧ i = 0) ∨ (lo = some (i : Int) ∧ i ≤ l.length)) (h : K (σ.set d (.list (l.take i ++ new)))) : St3 W n setItem (.obj d) (.fz (sliF lo none)) b σ K KE := by with_unfolding_all exact (fun sc c g ρ loc s v₁ v₂ v₃ C G r₁ r₂ r₃ => by
  cases r₂ with
  | fz q =>
  obtain ⟨sl, vl, vu, rfl, ⟨os, hos, hr⟩, pl, pu⟩ := q
  cases r₁ with
  | obj hp =>
  rename_i p
  obtain ⟨y, ws, n₂, rfl, hy, hws⟩ := list_at G hb r₃
  cases G.objs _ _ _ hp hd with
  | list hx hvs =>
  rename_i a vs n₁
  have lv := hvs.length
  have lw := hws.length
  have hs' : s.heap.IsSliceOf sl vl vu .none := ⟨os, G.gh _ _ hos, hr⟩
  refine setItem_slice hx hy hs' pl pu (by rw [List.size_toArray, List.size_toArray, sizeLine_eq]; omega) fun h' n' e sb => ?_
  have e1 : (sliceBounds lo none none vs.toArray.size).1.toNat = i := by
    rcases hi with ⟨rfl, rfl⟩ | ⟨rfl, hle⟩
    · rfl
    · have : i ≤ vs.length := by omega
      simp [sliceBounds]; omega
  have e2 : (max (sliceBounds lo none none vs.toArray.size).1 (sliceBounds lo none none vs.toArray.size).2.1).toNat = vs.length := by
    rcases hi with ⟨rfl, rfl⟩ | ⟨rfl, hle⟩
    · simp [sliceBounds]
    · have : i ≤ vs.length := by omega
      simp [sliceBounds]; omega
  rw [e1, e2] at e
  have e3 : vs.toArray.extract 0 i ++ ws.toArray ++ vs.toArray.extract vs.length vs.toArray.size = (vs.take i ++ ws).toArray := by
    simp
  rw [e3] at e
  obtain ⟨G', st⟩ := G.upd1 (o' := .list (l.take i ++ new)) (t := s.toks) hp sb.extBut (.list e ((hvs.take' i).append hws)) (nogen_of e rfl)
  exact ⟨_, g, ρ, h, st, G'⟩)

/-- a place of a list written anew -/
theorem st_int {d : Nat} {l : List MV} {k : Int} {m : MV} {K : Hp → Prop} (hd : σ[d]? = some (.list l)) (h0 : 0 ≤ k) (hk : k < l.length) (hz : l.length ≤ 100000) (h : K (σ.set d (.list (l.set k.toNat m)))) : St3 W n setItem (.obj d) (.int k) m σ K KE := by with_unfolding_all exact (fun sc c g ρ loc s v₁ v₂ v₃ C G r₁ r₂ r₃ => by
  cases r₂
  cases r₁ with
  | obj hp =>
  rename_i p
  cases G.objs _ _ _ hp hd with
  | list hx hvs =>
  rename_i a vs n₁
  have lv := hvs.length
  refine setItem_int hx h0 (by omega) (by rw [List.size_toArray, ← lv]; exact hk) fun h' n' e sb => ?_
  have e3 : vs.toArray.setIfInBounds k.toNat v₃ = (vs.set k.toNat v₃).toArray := by simp
  rw [e3] at e
  obtain ⟨G', st⟩ := G.upd1 (o' := .list (l.set k.toNat m)) (t := s.toks) hp sb.extBut (.list e (hvs.set' _ r₃)) (nogen_of e rfl)
  exact ⟨_, g, ρ, h, st, G'⟩)

/-- the list of a Headers that is being made -/
theorem st_list (F : Sx W Kf) {k l : Nat} {vs : List MV} {K : Hp → Prop} (hk : σ[k]? = some (.inst none)) (hl : σ[l]? = some (.list vs)) (h : K (σ.set k (.inst (some l)))) : St2 W n (fun ov v => setAttr ov (Str.ofString "_list") v) (.obj k) (.obj l) σ K KE := by with_unfolding_all exact (fun sc c g ρ loc s v₁ v₂ C G r₁ r₂ => by
  cases r₁ with
  | obj hp =>
  rename_i p
  cases r₂ with
  | obj hq =>
  rename_i q
  cases G.objs _ _ _ hp hk with
  | inst0 h1 h2 =>
  rename_i a d
  have X : Kf.In s.heap := Frag.In.keeps F.inK G.baseIn
  have I : InstAt s.heap a (instObj hdrCls d) hdrCls (some (dictOf [] 0)) := ⟨h1, rfl, rfl, h2⟩
  obtain ⟨f1, f2, f3⟩ := F.seta
  refine set_plain X I f1 ?_
  refine osa_open (s := { s with toks := s.toks + 1 }) X I f2 f3 fun b => ?_
  obtain ⟨cd, hc, hd'⟩ := any_some F.attr.2.1
  refine wpAny_bind (wpAny_pure (wpAny_bind (wpAny_bind (wpAny_loadPart h1 (wpAny_bind (Looks.here (s := { s with toks := s.toks + 1 }) (looks_clsIn X hc) ?_))))))
  rw [hd']
  refine wpAny_pure (a := some d) (wpAny_bind (wpAny_pure (wpAny_bind ?_)))
  unfold nsSet
  refine wpAny_bind (wpAny_bind (wpAny_askSetting (wpAny_pure (wpAny_bind (wpAny_mkText (wpAny_bind (wpAny_loadPart h2 ?_)))))))
  rw [show (dictOf [] 0).data = .dict #[] 0 from rfl]
  dsimp only
  rw [aRefKeyMayBeTheName_at]
  rw [if_neg (by simp)]
  refine wpAny_updatePart h2 ?_
  dsimp only
  generalize (if (Str.ofString "_list").cps.isEmpty = true then (0 : Int) else reduceHash ((model W.prog W.w).w.params.strHash (Str.ofString "_list").cps)) = hsh
  have hf : (Obj.putName (Str.ofString "_list") hsh (.str (Str.ofString "_list") (s.toks + 1)) (.ref q.1) (dictOf [] 0)).isFreed = false := by rw [putName_dict]; rfl
  have D' := Heap.get?_update_self (Obj.putName (Str.ofString "_list") hsh (.str (Str.ofString "_list") (s.toks + 1)) (.ref q.1)) h2 hf
  rw [putName_dict] at D'
  have D'' : (s.heap.update d (Obj.putName (Str.ofString "_list") hsh (.str (Str.ofString "_list") (s.toks + 1)) (.ref q.1))).get? d = some (dictOf [⟨hsh, .str (Str.ofString "_list") (s.toks + 1), .ref q.1⟩] (putN (Str.ofString "_list") [] 0)) := D'
  have ne : d ≠ a := fun e => by rw [e, h1] at h2; cases h2
  have A' : (s.heap.update d (Obj.putName (Str.ofString "_list") hsh (.str (Str.ofString "_list") (s.toks + 1)) (.ref q.1))).get? a = some (instObj hdrCls d) := (Heap.get?_update_other _ _ ne).trans h1
  refine wpAny_bind (wpAny_lookBehind D'' (pastItsLine_dict (by simp [sizeLine_eq])) ?_)
  refine wpAny_pure ?_
  obtain ⟨G', st⟩ := G.updM (o' := .inst (some l)) (t := s.toks + 1 + 1) hp hk (Heap.SameBut.update ..) (.inr rfl) (.inst1 A' D'' hq) (nogen_of A' rfl)
  exact ⟨_, g, ρ, h, st, G'⟩)
end
end
section
open PySem PySem.W PyProof.Rows
section
variable {W : Wd} {Kf : Frag} {c : Cx} {g g₁ : Heap} {ρ ρ₁ : Rho} {loc loc' : Loc} {σ σ' : Hp} {s s₁ : Shared} {n : Nat} {sc scope : Scope}
variable {K : MV → Hp → Prop} {KE : Xc → Hp → Prop}

/-- a Headers, still empty -/
theorem Good.newInst (G : Good W c g ρ loc σ s) : Good W c g (ρ ++ [(s.heap.objs.size + 1, s.heap.objs.size)]) loc (σ ++ [.inst none]) { s with heap := (s.heap.push emptyDict).push (instObj hdrCls s.heap.objs.size) } ∧
    Step c g ρ s g (ρ ++ [(s.heap.objs.size + 1, s.heap.objs.size)]) { s with heap := (s.heap.push emptyDict).push (instObj hdrCls s.heap.objs.size) } := by
  have fr : s.heap.get? s.heap.objs.size = none := Heap.get?_none_of_le (Nat.le_refl _)
  have fr1 : s.heap.get? (s.heap.objs.size + 1) = none := Heap.get?_none_of_le (Nat.le_succ _)
  have keep : ∀ b o, s.heap.get? b = some o → ((s.heap.push emptyDict).push (instObj hdrCls s.heap.objs.size)).get? b = some o := fun b o e => Heap.get?_push_of_some _ (Heap.get?_push_of_some _ e)
  have hd : ((s.heap.push emptyDict).push (instObj hdrCls s.heap.objs.size)).get? s.heap.objs.size = some (dictOf [] 0) := Heap.get?_push_of_some _ (Heap.get?_push_size _ rfl)
  have hx : ((s.heap.push emptyDict).push (instObj hdrCls s.heap.objs.size)).get? (s.heap.objs.size + 1) = some (instObj hdrCls s.heap.objs.size) := by
    have := Heap.get?_push_size (s.heap.push emptyDict) (o := instObj hdrCls s.heap.objs.size) rfl
    rw [Heap.size_push] at this; exact this
  have P := G.fresh fr
  have P1 := G.fresh fr1
  have G1 : Good W c g ρ loc σ { s with heap := (s.heap.push emptyDict).push (instObj hdrCls s.heap.objs.size) } := G.move (fun b o e _ => keep b o e) rfl rfl
  refine ⟨G1.adopt P1 P (.inst0 hx hd) (fun x h => (nogen_of hx rfl x h).elim), StaysIn.refl _, RLe.append _ _, fun a o e p => ⟨keep a o e, ⟨p.g, fun q hq => ?_, p.l, p.cl, p.k⟩⟩⟩
  rcases List.mem_append.mp hq with h | h
  · exact p.r q h
  · rw [List.mem_singleton] at h; subst h
    refine ⟨fun q => ?_, fun q => ?_⟩
    · rw [← q] at e; exact nomatch (fr1.symm.trans e)
    · rw [← q] at e; exact nomatch (fr.symm.trans e)

theorem call_class (F : Sx W Kf) (hn : n ≤ 40) {ms : List MV} (h : CdP W n (fun vs kvs => .call (.ref 295) ⟨vs, kvs⟩) (.obj σ.length :: ms) [] (σ ++ [.inst none]) (fun m σ' => m = .none ∧ K (.obj σ.length) σ') KE) : CallM W n (.ref 527) ms [] σ K KE := by with_unfolding_all exact (fun sc c g ρ loc s vs kvs C G r kr => by
  cases kr
  refine wpAny_call ?_
  have X : Kf.In s.heap := Frag.In.keeps F.inK G.baseIn
  obtain ⟨G', st⟩ := G.newInst
  obtain ⟨hp, gg, d, tk, os⟩ := s
  have F0 := F.meth "__init__" 295 (by simp [hdrMeths])
  have hf : typeIn Kf (.ref 295) = some (.type "function") := beq_iff_eq.mp F0.2.2.1
  refine make_core (makes_of X F.make) (looks_findIn X F0.2.1) (fun self => bind_fn X self hf) (.inl rfl) ?_
  have hlast : (ρ ++ [(hp.objs.size + 1, hp.objs.size)])[σ.length]? = some (hp.objs.size + 1, hp.objs.size) := by rw [G.len]; simp
  have rx : VRel g (ρ ++ [(hp.objs.size + 1, hp.objs.size)]) (.obj σ.length) (.ref (hp.objs.size + 1)) := .obj hlast
  have N : Near c (c.A.under (.builtin "type.__call__" ⟨.ref 527 :: vs, []⟩)) := ⟨C.fr, C.hd (by omega), by rw [depth_under_kw]; omega, by have e : (Code.builtin "type.__call__" ⟨.ref 527 :: vs, []⟩).cUnits = 1 := rfl; show c.A.units + (Code.builtin "type.__call__" ⟨.ref 527 :: vs, []⟩).cUnits ≤ _; rw [e]; omega⟩
  refine codeAny_mono (h sc c g _ loc _ (.ref (hp.objs.size + 1) :: vs) [] _ C G' (.cons rx (r.mono st.ge st.re)) .nil N) fun x s' hx => ?_
  cases x with
  | error e => exact XPost.after st hx
  | ok f => cases f with
    | ret v =>
      obtain ⟨m, σ', g', ρ', ⟨rfl, hK⟩, st', G'', rv⟩ := hx
      cases rv
      exact ⟨rfl, .obj σ.length, σ', g', ρ', hK, st.trans st', G'', rx.mono st'.ge st'.re⟩
    | _ => exact hx)
end
end
section
open PySem PySem.W PyProof.Rows PySem.W.X
/-- a generator, woken, until it yields or ends -/
def WakeX (W : Wd) (A : Around) (gs : GenState) (P : End → Shared → Prop) (s : Shared) : Prop := match gs with
  | .fresh c => SegX (Mo W) A c (denote table c) [] s P
  | .suspended k _ c _ fs _ => SegX (Mo W) A c (k (.send .none)) fs s P
  | _ => False

section
variable {W : Wd} {A : Around} {E : Value → Shared → Prop} {s : Shared}
theorem SegX.quietly {c : Code} {t : Sem Fin} {fs : List Frame} {P : End → Shared → Prop} (x : SegX (Mo W) A c t fs s P) : SegX (Mo W) A c t fs s (fun e s' => e.quiet = true ∧ P e s') := fun Γ p hc hΓ => by
  obtain ⟨e, s', hr, hq, hp⟩ := x Γ p hc hΓ
  exact ⟨e, s', hr, hq, hq, hp⟩

theorem genNext {a : Addr} {id : Nat} {gs : GenState} {P : End → Shared → Prop} {Q : Option Value → Shared → Prop} (hh : A.handled = none) (hl : s.heap.NoLimit) (hroom : A.depth < recursionLimit)
    (hg : s.heap.IsGen a id) (hgs : s.gens[id]? = some gs) (hw : WakeX W A.in1 gs P (s.setGen id .running))
    (hP : ∀ e s₁, e.quiet = true → P e s₁ → match e with
      | .ret r => r = .ok (.ret .none) ∧ ∀ h', (∀ b o, s₁.heap.get? b = some o → h'.get? b = some o) → Q none { s₁.setGen id .finished with heap := h' }
      | .susp v g l k c p fs => Q (some v) (s₁.setGen id (End.susp v g l k c p fs).genState)) : wpAny (Mo W) A (pyNext (.ref a)) Q E s := by
  unfold pyNext
  refine wpAny_bind (wpAny_attempt (wpAny_callSpecial?_slot (name := Str.ofString "__next__") hg.typeIs slot_gen_next
    (wpAny_call_entry slot_gen_next hg.typeIs entry_gen_next ?_ (args_gen_next _))))
  show wpAny _ _ (Builtin.Generator.genWake (.ref a) (.send .none)) _ _ s
  unfold Builtin.Generator.genWake
  refine wpAny_bind (wpAny_holding (wpAny_genNumber hg (wpAny_bind (wpAny_genState hgs ?_))))
  cases gs with
  | running => exact hw.elim
  | finished => exact hw.elim
  | _ =>
    refine wpAny_bind (wpAny_roomToWake hl hroom ?_)
    show wpAny _ _ (.resume id (.send .none) [] _) _ _ s
    intro Γ p hΓ
    first
      | refine wake_any _ W.prog W.w (A := A.in1) hgs (.inl ⟨rfl, rfl, rfl, rfl⟩) (fun Γ => Γ.In A.in1) (fun _ h => h) (SegX.mono (SegX.quietly hw) fun e s₁ q Γ p hC => ?_) Γ p hΓ
      | refine wake_any _ W.prog W.w (A := A.in1) hgs (.inr ⟨_, _, _, _, rfl, rfl⟩) (fun Γ => Γ.In A.in1) (fun _ h => h) (SegX.mono (SegX.quietly hw) fun e s₁ q Γ p hC => ?_) Γ p hΓ
    obtain ⟨hq, hp⟩ := q
    have z := hP e s₁ hq hp
    cases e with
    | ret r =>
      obtain ⟨rfl, z⟩ := z
      refine (show wpAny (Mo W) A.in1 _ _ _ _ from ?_) Γ p hC
      show wpAny _ _ (newExc (.type "StopIteration") [] >>= _) _ _ _
      refine wpAny_bind ?_
      simp only [newExc, newTuple]
      refine wpAny_bind (wpAny_newObj_type ?_ (by size_fits))
      refine wpAny_bind (m := firstArgMember _ _) (wpAny_of_eq (a := Value.none) (by first | rfl | (simp only [firstArgMember]; rfl)) ?_)
      refine wpAny_newObj_type ?_ (by size_fits)
      simp only [raiseNew]
      refine wpAny_bind (wpAny_bind (wpAny_handled ?_))
      rw [show A.in1.handled = none from hh]
      refine wpAny_throw ?_
      refine wpAny_bind (wpAny_isInstance (T := "StopIteration") (b := true) ⟨_, Heap.get?_push_size _ rfl, rfl⟩ isSubtype_stop ?_)
      exact wpAny_pure (z _ fun b o hb => Heap.get?_push_of_some _ (Heap.get?_push_of_some _ hb))
    | susp v g l k c p' fs =>
      exact (show wpAny (Mo W) A.in1 _ _ _ _ from wpAny_pure ⟨v, rfl, wpAny_pure z⟩) Γ p hC
end

/-- the frame of a generator -/
abbrev GSt := List Nat × Nat
structure GenEnv (env : Env) (gsc : Scope) (d : Addr) (L : GSt → Loc) : Prop where
  sc : env.scope = gsc
  kind : gsc.kind = .function
  gen : gsc.isCoroutine = false
  glob : env.globals = mainGlobals
  blt : env.builtins = builtinsNs
  loc : env.locals = d
  fr : env.frame = some d
  cells : env.cells = []
  nocell : ∀ x, gsc.names.lookup x ≠ some .cell
  names : ∀ st x m, (L st).lookup x = some m → gsc.names.lookup x = some .local

/-- what lies around it when it runs -/
structure GAt (B n : Nat) (A : Around) (stk : List Env) (kept : List (Addr × Data)) (d : Addr) : Prop where
  hn : n ≤ B ∧ B ≤ 45
  hd : A.handled = none
  fr : A.frames = some stk
  dep : A.depth ≤ 5 * n + 310
  un : A.units ≤ 20 * n
  stk : ∀ e ∈ stk, e.scope.kind ≠ .module ∧ ∃ L, e.frame = some L ∧ ∃ x, (L, x) ∈ kept
  kept : ∀ q ∈ kept, q.1 ≠ d

abbrev GFun := GSt → Hp → Option (Option MV × (Hp → Hp) × GSt)
abbrev Own := List (Nat × Value)
def OwnOk (g : Heap) (ρ : Rho) (st : GSt) (own : Own) : Prop := ∀ x ∈ own, x.1 ∈ st.1 ∧ VRel g ρ (.obj x.1) x.2
theorem OwnOk.mono {g g' : Heap} {ρ ρ' : Rho} {st : GSt} {own : Own} (h : OwnOk g ρ st own) (k : g.StaysIn g') (r : RLe ρ ρ') : OwnOk g' ρ' st own := fun x hx => ⟨(h x hx).1, (h x hx).2.mono k r⟩
def genCx (A : Around) (env : Env) (stk : List Env) (kept : List (Addr × Data)) : Cx := ⟨A, env, env :: stk, kept⟩

def GSpec (W : Wd) (B : Nat) (env : Env) (L : GSt → Loc) (F : GFun) : Nat → GSt → Own → GenState → Prop
  | 0, _, _, _ => True
  | m + 1, st, own, gs => ∀ n A stk kept g ρ σ s r upd st', GAt B n A stk kept env.locals → Good W (genCx A env stk kept) g ρ (L st) σ s → OwnOk g ρ st own → F st σ = some (r, upd, st') →
    WakeX W A gs (fun e s' => ∃ g' ρ', Step (genCx A env stk kept) g ρ s g' ρ' s' ∧ Good W (genCx A env stk kept) g' ρ' (L st') (upd σ) s' ∧ match e with
      | .ret x => x = .ok (.ret .none) ∧ r = none
      | .susp v gd l k c p fs => ∃ mv, r = some mv ∧ VRel g' ρ' mv v ∧ ∃ own', OwnOk g' ρ' st' own' ∧ GSpec W B env L F m st' own' (End.susp v gd l k c p fs).genState) s

/-- a sleeping generator -/
def genS (W : Wd) (B : Nat) (gsc : Scope) (L : GSt → Loc) (F : GFun) (m : Nat) (st : GSt) : SemObj where
  rel g ρ h gens q := ∃ id gst env own, h.IsGen q.1 id ∧ gens[id]? = some gst ∧ GenEnv env gsc q.2 L ∧ (∃ mm, h.Ns q.2 mm ∧ ∀ x mv, (L st).lookup x = some mv → ∃ v, mm x = some v ∧ VRel g ρ mv v) ∧ OwnOk g ρ st own ∧ GSpec W B env L F m st own gst
  ok k := locOk k (L st) && st.1.all (decide <| · < k)
  there := fun ⟨id, gst, env, own, ⟨o, _, _, ho, _⟩, _, _, ⟨mm, ⟨o', _, _, ho', _⟩, _⟩, _⟩ => ⟨⟨o, ho⟩, ⟨o', ho'⟩⟩
  mono := fun k r e1 e2 eg ⟨id, gst, env, own, hG, hg, hE, ⟨mm, ⟨o', es, ep, ho', rr⟩, hl⟩, hO, hS⟩ =>
    ⟨id, gst, env, own, (let ⟨o, nm, qn, ho, r'⟩ := hG; ⟨o, nm, qn, e1.trans ho, r'⟩), (eg id hG).trans hg, hE, ⟨mm, ⟨o', es, ep, e2.trans ho', rr⟩, fun x mv e => let ⟨v, a, b⟩ := hl x mv e; ⟨v, a, b.mono k r⟩⟩, hO.mono k r, hS⟩
  take := fun q ⟨id, gst, env, own, hG, hg, hE, ⟨mm, hN, hl⟩, hO, hS⟩ => by
    rw [Bool.and_eq_true] at q
    exact ⟨id, gst, env, own, hG, hg, hE, ⟨mm, hN, fun x mv e => let ⟨v, a, b⟩ := hl x mv e; ⟨v, a, b.take (locOk.get q.1 e)⟩⟩, fun x hx => ⟨(hO x hx).1, (hO x hx).2.take (by rw [MV.ok]; exact List.all_eq_true.mp q.2 _ (hO x hx).1)⟩, hS⟩

/-- one that runs -/
def busyS (id : Nat) : SemObj where
  rel g ρ h gens q := h.IsGen q.1 id ∧ ∃ o, h.get? q.2 = some o
  ok k := true
  there := fun ⟨⟨o, _, _, ho, _⟩, h⟩ => ⟨⟨o, ho⟩, h⟩
  mono := fun k r e1 e2 eg ⟨⟨o, nm, qn, ho, r'⟩, o', h'⟩ => ⟨⟨o, nm, qn, e1.trans ho, r'⟩, o', e2.trans h'⟩
  take := fun _ h => h

section
variable {W : Wd} {c : Cx} {g g₁ : Heap} {ρ ρ₁ : Rho} {loc : Loc} {L : GSt → Loc} {st0 : GSt} {σ σ' : Hp} {s s₁ : Shared} {n : Nat} {sc gsc : Scope}

theorem IsGen.uniq {h : Heap} {a : Addr} {x y : Nat} (h1 : h.IsGen a x) (h2 : h.IsGen a y) : x = y := by
  obtain ⟨o, nm, qn, ho, _, hd, _⟩ := h1
  obtain ⟨o', nm', qn', ho', _, hd', _⟩ := h2
  rw [ho] at ho'; cases ho'
  rw [hd] at hd'
  simp at hd'
  omega

theorem set_get {α : Type} {l : List α} {k j : Nat} {x y : α} (h : (l.set k x)[j]? = some y) : (j = k ∧ y = x) ∨ (j ≠ k ∧ l[j]? = some y) := by
  by_cases e : j = k
  · subst e
    have hl : j < l.length := by
      have := (List.getElem?_eq_some_iff.mp h).1
      simpa using this
    rw [List.getElem?_set_self hl] at h; cases h
    exact .inl ⟨rfl, rfl⟩
  · rw [List.getElem?_set_ne (Ne.symm e)] at h
    exact .inr ⟨e, h⟩

/-- into the generator's frame -/
theorem Good.wake (C : COk W n sc c) (G : Good W c g ρ loc σ s) {k : Nat} {a d : Addr} {id : Nat} {env : Env} {A : Around} (hk : ρ[k]? = some (a, d)) (hg : s.heap.IsGen a id) (hE : GenEnv env gsc d L)
    (hN : ∃ mm, s.heap.Ns d mm ∧ ∀ x mv, (L st0).lookup x = some mv → ∃ v, mm x = some v ∧ VRel g ρ mv v) :
    Good W (genCx A env c.stack (keptOf s.heap c.env c.kept)) g (ρ.set k (a, a)) (L st0) (σ.set k (.sem (busyS id))) (s.setGen id .running) := by
  have hp := List.mem_of_getElem? hk
  have hkl : k < ρ.length := (List.getElem?_eq_some_iff.mp hk).1
  obtain ⟨mm, hNs, hl⟩ := hN
  have re : RLe ρ (ρ.set k (a, a)) := fun i p e => by
    by_cases q : i = k
    · subst q; rw [hk] at e; cases e
      exact ⟨_, List.getElem?_set_self hkl, rfl⟩
    · exact ⟨p, by rw [List.getElem?_set_ne (Ne.symm q)]; exact e, rfl⟩
  have inR : ∀ p, p ∈ ρ.set k (a, a) → p ∈ ρ ∨ p = (a, a) := fun p h => List.mem_or_eq_of_mem_set h
  have hid : id < s.gens.size := (G.gq k k (a, d) (a, d) hk hk id id hg hg).1
  have gsz : (s.setGen id .running).gens.size = s.gens.size := by simp [Shared.setGen]
  have ad : a ≠ d := fun e => by
    obtain ⟨o, nm, qn, ho, _, hd', _⟩ := hg
    obtain ⟨o', es, ep, ho', hd'', _⟩ := hNs
    rw [← e, ho] at ho'; cases ho'
    rw [hd'] at hd''; cases hd''
  refine ⟨G.base, G.gh, fun p h => ?_, ?_, by simp [G.len], fun i p o e1 e2 => ?_, G.os, ?_, fun i j p q e1 e2 x y h1 h2 => ?_, fun x mv e => ?_, ⟨⟨mm, by rw [show (genCx A env c.stack (keptOf s.heap c.env c.kept)).env.locals = d from hE.loc]; exact hNs⟩, ?_, fun p h => ?_⟩, fun x hx => ?_, fun q hq => ?_⟩
  · rcases inR p h with h | rfl
    · exact G.gρ p h
    · exact ⟨(G.gρ _ hp).1, (G.gρ _ hp).1⟩
  · refine List.pairwise_iff_getElem.mpr fun i j hi hj hij => ?_
    have hi' : i < ρ.length := by simpa using hi
    have hj' : j < ρ.length := by simpa using hj
    have ei : ρ[i]? = some ρ[i] := List.getElem?_eq_getElem hi'
    have ej : ρ[j]? = some ρ[j] := List.getElem?_eq_getElem hj'
    by_cases q1 : k = i
    · subst q1
      have e1 : (ρ.set k (a, a))[k] = (a, a) := by simp
      have e2 : (ρ.set k (a, a))[j] = ρ[j] := by rw [List.getElem_set_ne (by omega)]
      rw [e1, e2]
      have := G.apart hk ej (by omega)
      exact ⟨this.1, this.2.1, this.1, this.2.1⟩
    · by_cases q2 : k = j
      · subst q2
        have e1 : (ρ.set k (a, a))[i] = ρ[i] := by rw [List.getElem_set_ne q1]
        have e2 : (ρ.set k (a, a))[k] = (a, a) := by simp
        rw [e1, e2]
        have := G.apart ei hk (by omega)
        exact ⟨this.1, this.1, this.2.2.1, this.2.2.1⟩
      · rw [List.getElem_set_ne q1, List.getElem_set_ne q2]
        exact G.apart ei ej (by omega)
  · rcases set_get e1 with ⟨rfl, rfl⟩ | ⟨ne, e1⟩
    · rcases set_get e2 with ⟨_, rfl⟩ | ⟨ne, _⟩
      · obtain ⟨o, nm, qn, ho, r⟩ := hg
        exact .sem ⟨⟨o, nm, qn, ho, r⟩, ⟨o, ho⟩⟩
      · exact absurd rfl ne
    · rcases set_get e2 with ⟨q, _⟩ | ⟨_, e2⟩
      · exact absurd q ne
      · refine (G.objs i p o e1 e2).mono (StaysIn.refl _) re rfl rfl fun x hx => ?_
        have := (G.gq i k p (a, d) e1 hk x id hx hg).2 ne
        simp only [Shared.setGen]
        rw [Array.getElem?_setIfInBounds_ne (Ne.symm this)]
  · intro y hy
    simp only [Shared.setGen] at hy
    rcases Array.mem_or_eq_of_mem_setIfInBounds hy with h | rfl
    · exact G.gens y h
    · rfl
  · rw [gsz]
    have key : ∀ (i : Nat) p, (ρ.set k (a, a))[i]? = some p → ∃ p', ρ[i]? = some p' ∧ p'.1 = p.1 := fun i p e => by
      rcases set_get e with ⟨rfl, rfl⟩ | ⟨_, e⟩
      · exact ⟨_, hk, rfl⟩
      · exact ⟨p, e, rfl⟩
    obtain ⟨p', f1, q1⟩ := key i p e1
    obtain ⟨q', f2, q2⟩ := key j q e2
    exact G.gq i j p' q' f1 f2 x y (q1 ▸ h1) (q2 ▸ h2)
  · obtain ⟨v, hv, r⟩ := hl x mv e
    refine ⟨v, ?_, r.mono (StaysIn.refl _) re⟩
    unfold VHolds
    rw [show (genCx A env c.stack (keptOf s.heap c.env c.kept)).env.kindOf x = some .local from by show env.scope.names.lookup x = _; rw [hE.sc]; exact hE.names _ x mv e]
    exact ⟨mm, by rw [show (genCx A env c.stack (keptOf s.heap c.env c.kept)).env.locals = d from hE.loc]; exact hNs, hv⟩
  · rw [show (genCx A env c.stack (keptOf s.heap c.env c.kept)).env.locals = d from hE.loc]; exact (G.gρ _ hp).2
  · rw [show (genCx A env c.stack (keptOf s.heap c.env c.kept)).env.locals = d from hE.loc]
    obtain ⟨i, hi, e⟩ := List.mem_iff_getElem.mp h
    have e' : (ρ.set k (a, a))[i]? = some p := by rw [List.getElem?_eq_getElem hi, e]
    rcases set_get e' with ⟨rfl, rfl⟩ | ⟨ne, e'⟩
    · exact ⟨ad, ad⟩
    · have := G.apart e' hk ne
      exact ⟨this.2.1, this.2.2.2⟩
  · rw [show (genCx A env c.stack (keptOf s.heap c.env c.kept)).env.cells = [] from hE.cells] at hx; cases hx
  · obtain ⟨z1, z2, z3⟩ := G.keptOk q hq
    refine ⟨z1, z2, fun p h => ?_⟩
    rcases inR p h with h | rfl
    · exact z3 p h
    · exact ⟨(z3 _ hp).1, (z3 _ hp).1⟩

/-- back to the frame that asked -/
theorem Good.asleep (C : COk W n sc c) (G : Good W c g ρ loc σ s) {k : Nat} {a d : Addr} {id : Nat} {env : Env} {A : Around} {gs' : GenState} (hk : ρ[k]? = some (a, d)) (hE : GenEnv env gsc d L)
    (st : Step (genCx A env c.stack (keptOf s.heap c.env c.kept)) g (ρ.set k (a, a)) (s.setGen id .running) g₁ ρ₁ s₁) (G' : Good W (genCx A env c.stack (keptOf s.heap c.env c.kept)) g₁ ρ₁ (L st0) σ' s₁)
    (hb : σ'[k]? = some (.sem (busyS id))) (hbare : gs'.bare = true) {h' : Heap} (hh : ∀ b o, s₁.heap.get? b = some o → h'.get? b = some o) {o : MO}
    (ho : (∃ mm, h'.Ns d mm ∧ ∀ x mv, (L st0).lookup x = some mv → ∃ v, mm x = some v ∧ VRel g₁ (ρ₁.set k (a, d)) mv v) → h'.IsGen a id → (s₁.setGen id gs').gens[id]? = some gs' → ORel g₁ (ρ₁.set k (a, d)) h' (s₁.setGen id gs').gens (a, d) o) :
    Good W c g₁ (ρ₁.set k (a, d)) loc (σ'.set k o) { s₁.setGen id gs' with heap := h' } ∧ Step c g ρ s g₁ (ρ₁.set k (a, d)) { s₁.setGen id gs' with heap := h' } := by
  have hp := List.mem_of_getElem? hk
  have hkl : k < ρ.length := (List.getElem?_eq_some_iff.mp hk).1
  obtain ⟨⟨pa, pb⟩, hk1, epa⟩ := st.re k (a, a) (List.getElem?_set_self hkl)
  have epa : pa = a := epa
  subst epa
  have hp1 := List.mem_of_getElem? hk1
  have hk1l : k < ρ₁.length := (List.getElem?_eq_some_iff.mp hk1).1
  have eloc : (genCx A env c.stack (keptOf s.heap c.env c.kept)).env.locals = d := hE.loc
  obtain ⟨⟨mm, hNs⟩, hgd, hrd⟩ := G'.ns
  rw [eloc] at hNs hgd hrd
  have hgen : s₁.heap.IsGen pa id := by
    cases G'.objs k _ _ hk1 hb with
    | sem h => exact h.1
  have hid : id < s₁.gens.size := (G'.gq k k _ _ hk1 hk1 id id hgen hgen).1
  have gsz : (s₁.setGen id gs').gens.size = s₁.gens.size := by simp [Shared.setGen]
  have ggs : (s₁.setGen id gs').gens[id]? = some gs' := by simp [Shared.setGen, hid]
  have re1 : RLe ρ₁ (ρ₁.set k (pa, d)) := fun i p e => by
    by_cases q : i = k
    · subst q; rw [hk1] at e; cases e
      exact ⟨_, List.getElem?_set_self hk1l, rfl⟩
    · exact ⟨p, by rw [List.getElem?_set_ne (Ne.symm q)]; exact e, rfl⟩
  have re0 : RLe ρ (ρ.set k (pa, pa)) := fun i p e => by
    by_cases q : i = k
    · subst q; rw [hk] at e; cases e
      exact ⟨_, List.getElem?_set_self hkl, rfl⟩
    · exact ⟨p, by rw [List.getElem?_set_ne (Ne.symm q)]; exact e, rfl⟩
  have re : RLe ρ (ρ₁.set k (pa, d)) := RLe.trans re0 (RLe.trans st.re re1)
  have inR : ∀ p, p ∈ ρ₁.set k (pa, d) → p ∈ ρ₁ ∨ p = (pa, d) := fun p h => List.mem_or_eq_of_mem_set h
  have hNs' : h'.Ns d mm := let ⟨o, es, ep, e, r⟩ := hNs; ⟨o, es, ep, hh _ _ e, r⟩
  have hgen' : h'.IsGen pa id := hgen.keeps hh
  -- the names of the generator
  have hl0 : ∀ x mv, (L st0).lookup x = some mv → ∃ v, mm x = some v ∧ VRel g₁ (ρ₁.set k (pa, d)) mv v := fun x mv e => by
    obtain ⟨v, H, r⟩ := G'.locs x mv e
    unfold VHolds at H
    rw [show (genCx A env c.stack (keptOf s.heap c.env c.kept)).env.kindOf x = some .local from by show env.scope.names.lookup x = _; rw [hE.sc]; exact hE.names _ x mv e] at H
    obtain ⟨m2, hn2, hv⟩ := H
    rw [eloc] at hn2
    obtain ⟨o1, es1, ep1, ho1, hd1, _, hf1⟩ := hNs
    obtain ⟨o2, es2, ep2, ho2, hd2, _, hf2⟩ := hn2
    rw [ho1] at ho2; cases ho2
    rw [hd1] at hd2; cases hd2
    exact ⟨v, by rw [← hf1 x, hf2 x, hv], r.mono (StaysIn.refl _) re1⟩
  have keq : ∀ q ∈ keptOf s.heap c.env c.kept, ∃ o, h'.get? q.1 = some o ∧ o.data = q.2 ∧ ∀ vs, q.2 ≠ .fields vs := fun q hq => by
    obtain ⟨⟨o, ho, hd, hf⟩, _⟩ := G'.kep q hq
    exact ⟨o, hh _ _ ho, hd, hf⟩
  have kl : (c.env.locals, ((s.heap.get? c.env.locals).map Obj.data).getD .plain) ∈ keptOf s.heap c.env c.kept := List.mem_append_left _ (.head _)
  have kc : ∀ x ∈ c.env.cells, (x.2, ((s.heap.get? x.2).map Obj.data).getD .plain) ∈ keptOf s.heap c.env c.kept := fun x hx => List.mem_append_left _ (.tail _ (List.mem_map.mpr ⟨x, hx, rfl⟩))
  have kk : ∀ q ∈ c.kept, q ∈ keptOf s.heap c.env c.kept := fun q hq => List.mem_append_right _ hq
  have far : ∀ q ∈ keptOf s.heap c.env c.kept, g₁.get? q.1 = none ∧ ∀ p ∈ ρ₁.set k (pa, d), p.1 ≠ q.1 ∧ p.2 ≠ q.1 := fun q hq => by
    obtain ⟨_, z2, z3⟩ := G'.kep q hq
    refine ⟨z2, fun p h => ?_⟩
    rcases inR p h with h | rfl
    · exact z3 p h
    · exact ⟨(z3 _ hp1).1, ((G.keptOk q hq).2.2 _ hp).2⟩
  have kN : ∀ m, s.heap.Ns c.env.locals m → h'.Ns c.env.locals m := fun m ⟨o, es, ep, ho, hd, r⟩ => by
    obtain ⟨o', ho', hd', _⟩ := keq _ kl
    dsimp only at ho' hd'
    rw [ho] at hd'
    exact ⟨o', es, ep, ho', hd'.trans hd, r⟩
  have kC : ∀ y ∈ c.env.cells, ∀ v, s.heap.IsCell y.2 v → h'.IsCell y.2 v := fun y hy v ⟨o, ho, hd⟩ => by
    obtain ⟨o', ho', hd', _⟩ := keq _ (kc y hy)
    dsimp only at ho' hd'
    rw [ho] at hd'
    exact ⟨o', ho', hd'.trans hd⟩
  have heq : ∀ (i : Nat) p, ρ₁[i]? = some p → h'.get? p.1 = s₁.heap.get? p.1 ∧ h'.get? p.2 = s₁.heap.get? p.2 := fun i p e => by
    obtain ⟨⟨o1, q1⟩, ⟨o2, q2⟩⟩ := G'.rho (List.mem_of_getElem? e)
    exact ⟨(hh _ _ q1).trans q1.symm, (hh _ _ q2).trans q2.symm⟩
  refine ⟨⟨G'.base, fun b o e => hh b o (G'.gh b o e), fun p h => ?_, ?_, by simp [G'.len], fun i p o' e1 e2 => ?_, G'.os, ?_, fun i j p q e1 e2 x y h1 h2 => ?_, fun x mv e => ?_, ⟨?_, (far _ kl).1, (far _ kl).2⟩, fun x hx => ⟨?_, (far _ (kc x hx)).1, (far _ (kc x hx)).2⟩, fun q hq => ⟨?_, far q (kk q hq)⟩⟩, ⟨st.ge, re, fun b ob e P => ?_⟩⟩
  · rcases inR p h with h | rfl
    · exact G'.gρ p h
    · exact ⟨(G'.gρ _ hp1).1, hgd⟩
  · refine List.pairwise_iff_getElem.mpr fun i j hi hj hij => ?_
    have hi' : i < ρ₁.length := by simpa using hi
    have hj' : j < ρ₁.length := by simpa using hj
    have ei : ρ₁[i]? = some ρ₁[i] := List.getElem?_eq_getElem hi'
    have ej : ρ₁[j]? = some ρ₁[j] := List.getElem?_eq_getElem hj'
    by_cases q1 : k = i
    · subst q1
      have e1 : (ρ₁.set k (pa, d))[k] = (pa, d) := by simp
      have e2 : (ρ₁.set k (pa, d))[j] = ρ₁[j] := by rw [List.getElem_set_ne (by omega)]
      rw [e1, e2]
      have := G'.apart hk1 ej (by omega)
      have h2 := hrd _ (List.getElem_mem hj')
      exact ⟨this.1, this.2.1, Ne.symm h2.1, Ne.symm h2.2⟩
    · by_cases q2 : k = j
      · subst q2
        have e1 : (ρ₁.set k (pa, d))[i] = ρ₁[i] := by rw [List.getElem_set_ne q1]
        have e2 : (ρ₁.set k (pa, d))[k] = (pa, d) := by simp
        rw [e1, e2]
        have := G'.apart ei hk1 (by omega)
        have h2 := hrd _ (List.getElem_mem hi')
        exact ⟨this.1, h2.1, this.2.2.1, h2.2⟩
      · rw [List.getElem_set_ne q1, List.getElem_set_ne q2]
        exact G'.apart ei ej (by omega)
  · rcases set_get e1 with ⟨rfl, rfl⟩ | ⟨ne, e1⟩
    · rcases set_get e2 with ⟨_, rfl⟩ | ⟨ne, _⟩
      · exact ho ⟨mm, hNs', hl0⟩ hgen' ggs
      · exact absurd rfl ne
    · rcases set_get e2 with ⟨q, _⟩ | ⟨_, e2⟩
      · exact absurd q ne
      · refine (G'.objs i p o' e1 e2).mono (StaysIn.refl _) re1 (heq i p e1).1 (heq i p e1).2 fun x hx => ?_
        have := (G'.gq i k p _ e1 hk1 x id hx hgen).2 ne
        simp only [Shared.setGen]
        rw [Array.getElem?_setIfInBounds_ne (Ne.symm this)]
  · intro y hy
    simp only [Shared.setGen] at hy
    rcases Array.mem_or_eq_of_mem_setIfInBounds hy with h | rfl
    · exact G'.gens y h
    · exact hbare
  · have key : ∀ (i : Nat) p, (ρ₁.set k (pa, d))[i]? = some p → ∃ p', ρ₁[i]? = some p' ∧ p'.1 = p.1 := fun i p e => by
      rcases set_get e with ⟨rfl, rfl⟩ | ⟨_, e⟩
      · exact ⟨_, hk1, rfl⟩
      · exact ⟨p, e, rfl⟩
    obtain ⟨p', f1, q1⟩ := key i p e1
    obtain ⟨q', f2, q2⟩ := key j q e2
    have := G'.gq i j p' q' f1 f2 x y (IsGen.of_eq (heq i p' f1).1 (q1 ▸ h1)) (IsGen.of_eq (heq j q' f2).1 (q2 ▸ h2))
    exact ⟨by rw [gsz]; exact this.1, this.2⟩
  · obtain ⟨v, H, r⟩ := G.locs x mv e
    exact ⟨v, H.keep kN kC, r.mono st.ge re⟩
  · obtain ⟨m, hm⟩ := G.ns.1; exact ⟨m, kN m hm⟩
  · obtain ⟨v, hv⟩ := (G.cel x hx).1; exact ⟨v, kC x hx v hv⟩
  · exact keq q (kk q hq)
  · have nd : b ≠ d := fun q => (P.r _ hp).2 q.symm
    have Pb : Priv (genCx A env c.stack (keptOf s.heap c.env c.kept)) g (ρ.set k (pa, pa)) b := by
      refine ⟨P.g, fun p h => ?_, ?_, ?_, ?_⟩
      · rcases List.mem_or_eq_of_mem_set h with h | rfl
        · exact P.r p h
        · exact ⟨(P.r _ hp).1, (P.r _ hp).1⟩
      · rw [eloc]; exact Ne.symm nd
      · intro x hx
        rw [show (genCx A env c.stack (keptOf s.heap c.env c.kept)).env.cells = [] from hE.cells] at hx; cases hx
      · intro q hq
        rcases List.mem_append.mp hq with hq | hq
        · rcases List.mem_cons.mp hq with rfl | hq
          · exact P.l
          · obtain ⟨y, hy, rfl⟩ := List.mem_map.mp hq
            exact P.cl y hy
        · exact P.k q hq
    obtain ⟨e1, P1⟩ := st.ke b ob e Pb
    refine ⟨hh _ _ e1, P1.g, fun p h => ?_, P.l, P.cl, P.k⟩
    rcases inR p h with h | rfl
    · exact P1.r p h
    · exact ⟨(P.r _ hp).1, (P.r _ hp).2⟩

theorem nxt_gen {B : Nat} {t : Expr} {k m : Nat} {st : GSt} {F : GFun} {KS : MV → Hp → Prop} {KN : Hp → Prop} (hn : n < B ∧ B ≤ 45) (hlim : W.base.NoLimit) (hk : σ[k]? = some (.sem (genS W B gsc L F (m + 1) st)))
    (hF : ∀ b, (∀ j, b.ok j = true) → ∃ r upd st', F st (σ.set k b) = some (r, upd, st') ∧ (upd (σ.set k b))[k]? = some b ∧ match r with
      | some mv => KS mv ((upd (σ.set k b)).set k (.sem (genS W B gsc L F m st')))
      | none => KN ((upd (σ.set k b)).set k .dead)) : NxtP W n t k σ KS KN := by with_unfolding_all exact (fun sc c g ρ loc s v E C G r => by
  obtain ⟨⟨a, d⟩, hp, rfl, id, gst, env, own, hG, hg, hE, hN, hO, hS⟩ := sem_at G hk r
  have reW : RLe ρ (ρ.set k (a, a)) := fun i p e => by
    by_cases q : i = k
    · subst q; rw [hp] at e; cases e
      exact ⟨_, List.getElem?_set_self (List.getElem?_eq_some_iff.mp hp).1, rfl⟩
    · exact ⟨p, by rw [List.getElem?_set_ne (Ne.symm q)]; exact e, rfl⟩
  obtain ⟨r, upd, st', hFe, hbk, hK⟩ := hF (.sem (busyS id)) (fun _ => rfl)
  have hA : GAt B (n + 1) c.A.in1 c.stack (keptOf s.heap c.env c.kept) env.locals := by
    have e : n % 1000 = n := by omega
    refine ⟨by omega, C.hd (by omega), C.fr, ?_, ?_, fun x hx => ?_, fun q hq => ?_⟩
    · have := C.dep; rw [e] at this; show c.A.depth ≤ _; omega
    · have := C.un; rw [e] at this; show c.A.units + 1 ≤ _; omega
    · obtain ⟨hm, L, hL, hq⟩ := C.stk x hx
      refine ⟨hm, L, hL, ?_⟩
      rcases hq with rfl | ⟨y, hy⟩
      · exact ⟨_, List.mem_append_left _ (.head _)⟩
      · exact ⟨y, List.mem_append_right _ hy⟩
    · rw [hE.loc]; exact fun z => ((G.keptOk q hq).2.2 _ (List.mem_of_getElem? hp)).2 z.symm
  have GW := G.wake (A := c.A.in1) C hp hG hE hN
  have hw := hS (n + 1) c.A.in1 c.stack (keptOf s.heap c.env c.kept) g _ _ _ r upd st' hA GW (hO.mono (StaysIn.refl _) reW) hFe
  refine genNext (C.hd (by omega)) (Heap.NoLimit.keeps hlim G.baseIn) (by have := C.dep; show c.A.depth < 1000; omega) hG hg hw fun e s₁ hq hP => ?_
  obtain ⟨g', ρ', st₁, G₁, hx⟩ := hP
  cases e with
  | ret x =>
    obtain ⟨rfl, rfl⟩ := hx
    refine ⟨rfl, fun h' hh => ?_⟩
    obtain ⟨G₂, st₂⟩ := G.asleep (A := c.A.in1) C hp hE st₁ G₁ hbk (gs' := .finished) rfl hh (o := .dead) (fun hN' hG' _ => by
      obtain ⟨o, _, _, ho, _⟩ := hG'
      obtain ⟨_, ⟨o', _, _, ho', _⟩, _⟩ := hN'
      exact .dead ⟨o, ho⟩ ⟨o', ho'⟩)
    exact ⟨_, g', _, hK, st₂, G₂⟩
  | susp v gd l k' c' p' fs =>
    obtain ⟨mv, rfl, rv, own', hO', hS'⟩ := hx
    have re1 : RLe ρ' (ρ'.set k (a, d)) := fun i p e => by
      obtain ⟨p1, hk1, ep⟩ := st₁.re k (a, a) (List.getElem?_set_self (List.getElem?_eq_some_iff.mp hp).1)
      by_cases q : i = k
      · subst q; rw [hk1] at e; cases e
        exact ⟨_, List.getElem?_set_self (List.getElem?_eq_some_iff.mp hk1).1, ep.symm⟩
      · exact ⟨p, by rw [List.getElem?_set_ne (Ne.symm q)]; exact e, rfl⟩
    obtain ⟨G₂, st₂⟩ := G.asleep (A := c.A.in1) C hp hE st₁ G₁ hbk (gs' := (End.susp v gd l k' c' p' fs).genState) (End.bare_of_quiet hq) (h' := s₁.heap) (fun _ _ e => e) (o := .sem (genS W B gsc L F m st')) (fun hN' hG' hg' => .sem ⟨id, _, env, own', hG', hg', hE, hN', hO'.mono (StaysIn.refl _) re1, hS'⟩)
    have hG2 : s₁.heap.IsGen a id := by
      obtain ⟨p, hk1, ep⟩ := st₁.re k (a, a) (List.getElem?_set_self (List.getElem?_eq_some_iff.mp hp).1)
      cases G₁.objs k _ _ hk1 hbk with
      | sem h =>
        have h1 : s₁.heap.IsGen p.1 id := h.1
        rw [ep] at h1; exact h1
    obtain ⟨o, _, _, ho, hc, _⟩ := hG2
    exact lotg_other (s := s₁.setGen id _) ho hc (by decide) ⟨mv, _, g', _, hK, st₂, G₂, rv.mono (StaysIn.refl _) re1⟩)
end
end
section
open PySem PySem.W PyProof.Rows PySem.W.X
section
variable {W : Wd} {c : Cx} {g g₁ : Heap} {ρ ρ₁ : Rho} {loc : Loc} {L : GSt → Loc} {σ σ' : Hp} {s s₁ : Shared} {n : Nat} {sc gsc : Scope}
variable {K : MV → Hp → Prop} {KE : Xc → Hp → Prop}

def genObj (id : Nat) (nm qn : Value) : Obj := { cls := .type "generator", data := .fields #[.int id 0, nm, qn] }

/-- a new generator -/
theorem Good.newGen (G : Good W c g ρ loc σ s) {L : Addr} (PL : Priv c g ρ L) (hL : ∃ o, s.heap.get? L = some o) {gst : GenState} (hbare : gst.bare = true) {nm qn : Value} {t : Nat} {x : SemObj}
    (hr : ∀ h' gs', (∀ b o, s.heap.get? b = some o → h'.get? b = some o) → h'.IsGen s.heap.objs.size s.gens.size → gs'[s.gens.size]? = some gst → x.rel g (ρ ++ [(s.heap.objs.size, L)]) h' gs' (s.heap.objs.size, L)) :
    Good W c g (ρ ++ [(s.heap.objs.size, L)]) loc (σ ++ [.sem x]) { s with heap := s.heap.push (genObj s.gens.size nm qn), gens := s.gens.push gst, toks := t } ∧
      ∀ {g₀ : Heap} {ρ₀ : Rho} {s₀ : Shared}, Step c g₀ ρ₀ s₀ g ρ s → (∀ b o, s₀.heap.get? b = some o → Priv c g₀ ρ₀ b → b ≠ L) → Step c g₀ ρ₀ s₀ g (ρ ++ [(s.heap.objs.size, L)]) { s with heap := s.heap.push (genObj s.gens.size nm qn), gens := s.gens.push gst, toks := t } := by
  have fr : s.heap.get? s.heap.objs.size = none := Heap.get?_none_of_le (Nat.le_refl _)
  have P := G.fresh fr
  have keep : ∀ b o, s.heap.get? b = some o → (s.heap.push (genObj s.gens.size nm qn)).get? b = some o := fun b o e => Heap.get?_push_of_some _ e
  have there : ∀ p ∈ ρ, (s.heap.push (genObj s.gens.size nm qn)).get? p.1 = s.heap.get? p.1 ∧ (s.heap.push (genObj s.gens.size nm qn)).get? p.2 = s.heap.get? p.2 := fun p hp => by
    obtain ⟨⟨o1, q1⟩, ⟨o2, q2⟩⟩ := G.rho hp
    exact ⟨(keep _ _ q1).trans q1.symm, (keep _ _ q2).trans q2.symm⟩
  have hx : (s.heap.push (genObj s.gens.size nm qn)).IsGen s.heap.objs.size s.gens.size := ⟨_, nm, qn, Heap.get?_push_size _ rfl, rfl, rfl, rfl⟩
  have gat : (s.gens.push gst)[s.gens.size]? = some gst := by simp
  have G1 : Good W c g ρ loc σ { s with heap := s.heap.push (genObj s.gens.size nm qn), gens := s.gens.push gst, toks := t } := by
    have kN : ∀ a m, s.heap.Ns a m → (s.heap.push (genObj s.gens.size nm qn)).Ns a m := fun a m ⟨o, es, ep, e, r⟩ => ⟨o, es, ep, keep _ o e, r⟩
    have kC : ∀ a v, s.heap.IsCell a v → (s.heap.push (genObj s.gens.size nm qn)).IsCell a v := fun a v ⟨o, e, r⟩ => ⟨o, keep _ o e, r⟩
    refine ⟨G.base, fun b o e => keep b o (G.gh b o e), G.gρ, G.ρd, G.len, fun i p o e1 e2 => ?_, G.os, G.gens.push hbare, fun i j p q e1 e2 x y h1 h2 => ?_, fun x mv e => ?_, ⟨?_, G.ns.2⟩, fun x hx => ⟨?_, (G.cel x hx).2⟩, fun q hq => ⟨?_, (G.kep q hq).2⟩⟩
    · have hp := List.mem_of_getElem? e1
      refine (G.objs i p o e1 e2).mono (StaysIn.refl _) (RLe.refl _) (there p hp).1 (there p hp).2 fun x hx => ?_
      have := (G.gq i i p p e1 e1 x x hx hx).1
      show (s.gens.push gst)[x]? = _
      rw [Array.getElem?_push, if_neg (by omega)]
    · have := G.gq i j p q e1 e2 x y (IsGen.of_eq (there p (List.mem_of_getElem? e1)).1 h1) (IsGen.of_eq (there q (List.mem_of_getElem? e2)).1 h2)
      exact ⟨by show x < (s.gens.push gst).size; rw [Array.size_push]; omega, this.2⟩
    · obtain ⟨v, H, r⟩ := G.locs x mv e
      exact ⟨v, H.keep (fun m q => kN _ m q) (fun y _ v q => kC _ v q), r⟩
    · obtain ⟨m, hm⟩ := G.ns.1; exact ⟨m, kN _ m hm⟩
    · obtain ⟨v, hv⟩ := (G.cel x hx).1; exact ⟨v, kC _ v hv⟩
    · obtain ⟨o, e, r⟩ := (G.kep q hq).1; exact ⟨o, keep _ o e, r⟩
  refine ⟨G1.adopt P PL (.sem (hr _ _ keep hx gat)) (fun x h => ?_), fun st hne => ⟨st.ge, RLe.trans st.re (RLe.append _ _), fun a o e p => ?_⟩⟩
  · have e := IsGen.uniq h hx
    subst e
    refine ⟨by show s.gens.size < (s.gens.push gst).size; rw [Array.size_push]; omega, fun q hq y hy => ?_⟩
    obtain ⟨i, hi, eq⟩ := List.mem_iff_getElem.mp hq
    have ei : ρ[i]? = some q := by rw [List.getElem?_eq_getElem hi, eq]
    have hy' : s.heap.IsGen q.1 y := IsGen.of_eq (there q hq).1 hy
    have := (G.gq i i q q ei ei y y hy' hy').1
    omega
  · obtain ⟨e1, P1⟩ := st.ke a o e p
    refine ⟨keep _ _ e1, P1.g, fun q hq => ?_, P1.l, P1.cl, P1.k⟩
    rcases List.mem_append.mp hq with h | h
    · exact P1.r q h
    · rw [List.mem_singleton] at h; subst h
      refine ⟨fun z => ?_, fun z => hne a o e p z.symm⟩
      rw [← z, fr] at e1; exact nomatch e1

def noCells (names : List (Str × NameKind)) : Bool := names.all fun x => x.2 != .cell
theorem cellsFrom_nil : ∀ (names : List (Str × NameKind)) (k : Nat) (acc : List (Str × Addr)), noCells names = true → cellsFrom k names acc = acc
  | [], _, _, _ => rfl
  | (x, nk) :: r, k, acc, h => by
    unfold noCells at h
    rw [List.all_cons, Bool.and_eq_true] at h
    unfold cellsFrom
    rw [if_neg (by have := h.1; simp at this; simp [this])]
    exact cellsFrom_nil r _ _ h.2
theorem noCells_look {names : List (Str × NameKind)} (h : noCells names = true) (x : Str) : names.lookup x ≠ some .cell := fun e => by
  have := List.all_eq_true.mp h (x, .cell) (mem_of_lookup e)
  simp at this

theorem gen_call {B : Nat} {fd : FuncData} {a : Addr} {ms : List MV} {kws : List (Str × MV)} {body : List Stmt} (Fn : FnIs W a fd) (hlim : W.base.NoLimit) (hn : n ≤ 50) (hbody : fd.body = .stmts body)
    (hgen : fd.scope.isCoroutine = false ∧ fd.scope.isGenerator = true ∧ fd.scope.kind = .function) (hnc : noCells fd.scope.names = true) {F : GFun} {m : Nat} {st0 : GSt}
    (hb : BdP W n fd ms kws σ (fun l σ₁ => ∃ L : GSt → Loc, (((l.map (·.1)).Nodup ∧ ∀ x ∈ l, fd.scope.names.lookup x.1 = some .local) ∧ (l = L st0 ∧ ∀ st x m, (L st).lookup x = some m → fd.scope.names.lookup x = some .local) ∧ (∀ env, GenEnv env fd.scope env.locals L → GSpec W B env L F m st0 [] (.fresh (.func body env)))) ∧ K (.obj σ₁.length) (σ₁ ++ [.sem (genS W B fd.scope L F m st0)]))) :
    CdP W n (fun vs kvs => .call (.ref a) ⟨vs, kvs⟩) ms kws σ K KE := by with_unfolding_all exact (fun sc c g ρ loc s vs kvs A C G r kr N => by
  obtain ⟨o, ho, hd⟩ := Fn.at_
  have ho' := G.gh _ _ (G.base _ _ ho)
  have keepB : ∀ b o, W.base.get? b = some o → s.heap.get? b = some o := fun b o e => G.gh _ _ (G.base _ _ e)
  have key := fun E => hb sc c g ρ loc s vs kvs A C G r kr N E
  obtain ⟨hco, hge, hk⟩ := hgen
  refine codeAny_call_generator (by have := N.dep; have := C.dep; show A.depth < 1000; omega) ho' hd hco hge hbody (Fn.code.keeps keepB) (wpAny_mono (key _) (fun binds s₁ q => ?_) fun _ _ x => x)
  obtain ⟨l, σ₁, g₁, ρ₁, ⟨L, ⟨⟨hnd, hloc⟩, ⟨hlL, hnames⟩, hS⟩, hK⟩, st₁, G₁, hbr⟩ := q
  have hkind : ∀ x ∈ binds, fd.scope.names.lookup x.1 = some .local ∨ fd.scope.names.lookup x.1 = some .cell := fun x hx => by
    obtain ⟨y, hy, e⟩ := hbr.mem hx
    exact .inl (e ▸ hloc y hy)
  rw [Fn.clos]
  refine wpAny_newFunctionEnv_cells hk (fun x hx => (hkind x hx).imp id fun h => ⟨h, Option.isSome_iff_exists.mpr (cellsFrom_some' _ _ _ _ h)⟩) fun env he s₂ x => ?_
  have lim : s₂.heap.NoLimit := Heap.NoLimit.keeps (Heap.NoLimit.keeps hlim fun b o e => G₁.gh _ _ (G₁.base _ _ e)) x.toInCall.keep
  refine ⟨lim, ?_⟩
  have fr1 : s₁.heap.get? s₁.heap.objs.size = none := Heap.get?_none_of_le (Nat.le_refl _)
  have PL := G₁.fresh fr1
  have x' := x.toInCall
  have k2 := x'.keep
  have hns := x'.ns
  have hlocE : env.locals = s₁.heap.objs.size := by rw [he]; rfl
  have hkindE : ∀ y, env.kindOf y = fd.scope.names.lookup y := fun y => by rw [he]; rfl
  rw [hlocE] at hns
  obtain ⟨h', tk, rfl⟩ := x'.same
  have G₂ : Good W c g₁ ρ₁ loc σ₁ { s₁ with heap := h', toks := tk } := G₁.move (fun b o e _ => k2 b o e) rfl rfl
  have st₂ : Step c g ρ s g₁ ρ₁ { s₁ with heap := h', toks := tk } := ⟨st₁.ge, st₁.re, fun b o e P => by obtain ⟨e1, P1⟩ := st₁.ke b o e P; exact ⟨k2 _ _ e1, P1⟩⟩
  have hE : GenEnv env fd.scope s₁.heap.objs.size L := by
    subst he
    refine ⟨rfl, hk, hco, Fn.glob, Fn.blt, rfl, rfl, ?_, noCells_look hnc, hnames⟩
    · show cellsFrom _ _ _ = []
      exact cellsFrom_nil _ _ _ hnc
  obtain ⟨oL, es, ep, hoL, _⟩ := id hns
  have hnb : (binds.map (·.1)).Nodup := by rw [hbr.keys]; exact hnd
  obtain ⟨G₃, mk⟩ := G₂.newGen (L := s₁.heap.objs.size) PL ⟨oL, hoL⟩ (gst := .fresh (.func body env)) rfl (nm := .str fd.name tk) (qn := .str fd.qualname (tk + 1)) (t := tk + 1 + 1) (x := genS W B fd.scope L F m st0) (fun h'' gs' kk hg hgs => by
    refine ⟨_, _, env, [], hg, hgs, hE, ⟨_, let ⟨o, es, ep, e, r⟩ := hns; ⟨o, es, ep, kk _ _ e, r⟩, fun y mv hy => ?_⟩, (fun x hx => by cases hx), hS env (by rw [hE.loc]; exact hE)⟩
    rw [← hlL] at hy
    obtain ⟨v, hm, rr⟩ := hbr.look (by rw [hbr.keys]; exact hnd) hy
    refine ⟨v, ?_, rr.mono (StaysIn.refl _) (RLe.append _ _)⟩
    exact bindL_of hnb hm ((hkindE y).trans (hloc (y, mv) (mem_of_lookup hy))))
  have st₃ := mk st₂ (fun b o e P z => by
    obtain ⟨e1, _⟩ := st₁.ke b o e P
    rw [z, fr1] at e1; exact nomatch e1)
  refine ⟨.obj σ₁.length, _, g₁, _, hK, st₃, G₃, ?_⟩
  have : (ρ₁ ++ [((({ s₁ with heap := h', toks := tk } : Shared)).heap.objs.size, s₁.heap.objs.size)])[σ₁.length]? = some ((({ s₁ with heap := h', toks := tk } : Shared)).heap.objs.size, s₁.heap.objs.size) := by rw [G₁.len]; simp
  exact .obj (p := ((({ s₁ with heap := h', toks := tk } : Shared)).heap.objs.size, s₁.heap.objs.size)) this)

theorem gen_call0 {B : Nat} {fd : FuncData} {a : Addr} {ms : List MV} {kws : List (Str × MV)} {body : List Stmt} (Fn : FnIs W a fd) (hlim : W.base.NoLimit) (hn : n ≤ 50) (hbody : fd.body = .stmts body)
    (hgen : fd.scope.isCoroutine = false ∧ fd.scope.isGenerator = true ∧ fd.scope.kind = .function) (hnc : noCells fd.scope.names = true) {F : GFun} {m : Nat} {st0 : GSt}
    (hb : BdP W n fd ms kws σ (fun l σ₁ => (((l.map (·.1)).Nodup ∧ ∀ x ∈ l, fd.scope.names.lookup x.1 = some .local) ∧ (∀ env, GenEnv env fd.scope env.locals (fun _ => l) → GSpec W B env (fun _ => l) F m st0 [] (.fresh (.func body env)))) ∧ K (.obj σ₁.length) (σ₁ ++ [.sem (genS W B fd.scope (fun _ => l) F m st0)]))) :
    CdP W n (fun vs kvs => .call (.ref a) ⟨vs, kvs⟩) ms kws σ K KE := by with_unfolding_all
  refine gen_call (B := B) (F := F) (m := m) (st0 := st0) Fn hlim hn hbody hgen hnc fun sc c g ρ loc s vs kvs A C G r kr N E => ?_
  refine wpAny_mono (hb sc c g ρ loc s vs kvs A C G r kr N E) (fun binds s' q => ?_) fun _ _ x => x
  obtain ⟨l, σ', g', ρ', ⟨⟨⟨h1, h2⟩, h3⟩, h4⟩, q⟩ := q
  exact ⟨l, σ', g', ρ', ⟨fun _ => l, ⟨⟨h1, h2⟩, ⟨rfl, fun st x m e => h2 (x, m) (mem_of_lookup e)⟩, h3⟩, h4⟩, q⟩

theorem iter_gen {B k m : Nat} {st : GSt} {F : GFun} {K : Nat → Hp → Prop} (hk : σ[k]? = some (.sem (genS W B gsc L F m st))) (h : K k σ) : IterP W n (.obj k) σ K := by with_unfolding_all exact (fun sc c g ρ loc s v E C G r => by
  obtain ⟨⟨a, d⟩, hp, rfl, id, gst, env, own, hG, _⟩ := sem_at G hk r
  exact wpAny_pyIter_gen hG (Post.now G r ⟨k, rfl, h⟩))
end
end
section
open PySem PySem.W PyProof.Rows PySem.W.X
section
variable {W : Wd} {A : Around} {c : Code} {fs : List Frame} {s : Shared} {P : End → Shared → Prop} {env : Env}

theorem s_wrap {α : Type} {m : Sem α} {K : α → Sem Fin} {H : Value → Sem Fin} {gd lv} (h : wpAny (Mo W) (A.over c fs) m (fun a s' => SegX (Mo W) A c (K a) fs s' P) (fun x s' => False) s) : SegX (Mo W) A c (m.wrap K H gd lv) fs s P := by
  rintro Γ p rfl hΓ
  obtain ⟨e, s', hr, hq⟩ := runs_wrap_of_wp (Φ := fun e s' => e.quiet = true ∧ P e s') K H gd lv m (h (Γ.over fs) p (hΓ.over fs)) (fun a p' s' h' => h' Γ p' rfl hΓ) (fun x p' s' h' => h'.elim)
  exact ⟨e, s', hr, hq⟩
theorem s_wb {α β : Type} {X : Sem α} {f : α → Sem β} {K : β → Sem Fin} {H : Value → Sem Fin} {gd lv} (h : wpAny (Mo W) (A.over c fs) X (fun a s' => SegX (Mo W) A c ((f a).wrap K H gd lv) fs s' P) (fun _ _ => False) s) : SegX (Mo W) A c ((X >>= f).wrap K H gd lv) fs s P := by
  rw [Sem.bind_eq_wrap', Sem.wrap_wrap]
  exact s_wrap h

/-- the frame of a generator's function beneath its loop -/
def loopK (env : Env) (K : Flow → Sem Fin) (H : Value → Sem Fin) : Result → Sem Fin := fun r => ((match r with | .ok f => (.pure f : Sem Flow) | .error e => .raise e).onRaise fun (x : Value) => do
        if (← field x 1) == Value.none then unsupported "frame.own-activation:exception-without-traceback"
        setFlight x env.frame).wrap K H id id
def funK : Flow → Sem Fin := fun f => .pure (.done (.ret (match f with | .ret v => v | _ => .none)))
def funH (env : Env) : Value → Sem Fin := fun e => (leaving env e).wrap (fun _ => .raise e) .raise id id

theorem s_func {body : List Stmt} (h : SegX (Mo W) A (.func body env) ((execs body env).wrap funK (funH env) id id) fs s P) : SegX (Mo W) A (.func body env) (denote table (.func body env)) fs s P := by
  show SegX _ A _ (.point [] fun _ => ((execs body env).onRaise (leaving env)) >>= _) fs s P
  have e : ∀ (k : Flow → Sem Fin), (∀ f, k f = funK f) → ((execs body env).onRaise (leaving env)).bind k = (execs body env).wrap funK (funH env) id id := fun k hk => by
    rw [Sem.onRaise_eq_wrap, Sem.bind_eq_wrap, Sem.wrap_wrap]
    exact Sem.wrap_congr _ _ _ (fun f => hk f) (fun e => by rw [Sem.bind_eq_wrap, Sem.wrap_wrap]; rfl)
  refine s_skim W.prog W.w A _ fs P s _ 1 ?_
  show SegX _ A _ (((execs body env).onRaise (leaving env)).bind _) fs s P
  rw [e _ (fun f => by cases f <;> rfl)]
  exact h

theorem s_execs_cons {st : Stmt} {rest : List Stmt} {K : Flow → Sem Fin} {H : Value → Sem Fin} {gd lv} (h : SegX (Mo W) A c ((exec st env).wrap (fun f => match f with | .next => (execs rest env).wrap K H gd lv | f => K f) H gd lv) fs s P) :
    SegX (Mo W) A c ((execs (st :: rest) env).wrap K H gd lv) fs s P := by rw [execs_cons_wrap]; exact h

theorem s_for {target iter : Expr} {body : List Stmt} {pos : Pos} {K : Flow → Sem Fin} {H : Value → Sem Fin}
    (h : wpAny (Mo W) (A.over c fs) (eval iter env) (fun x s₁ => wpAny (Mo W) (A.over c fs) (pyIter x) (fun it s₂ => ∀ p, SegX (Mo W) A (.forLoop target it body [] env) (denote table (.forLoop target it body [] env)) (.ret (loopK env K H) none false [] c p [] :: fs) s₂ P) (fun _ _ => False) s₁) (fun _ _ => False) s)
    (hs : ∀ x, foldedSetIterable iter env x = pure x) : SegX (Mo W) A c ((exec (.For target iter body [] pos) env).wrap K H id id) fs s P := by
  rw [exec_For]
  refine s_wb (wpAny_standAt ?_)
  refine s_wb (wpAny_mono h (fun x s₁ h₁ => ?_) fun _ _ e => e)
  refine s_wb (wpAny_of_eq (hs x) ?_)
  refine s_wb (wpAny_standAt ?_)
  refine s_wb (wpAny_holding (wpAny_mono h₁ (fun it s₂ h₂ => ?_) fun _ _ e => e))
  exact s_call W.prog W.w A c fs P s₂ _ none false [] _ fun p => h₂ p
end
end
section
open PySem PySem.W PyProof.Rows PySem.W.X
section
variable {W : Wd} {B : Nat} {env : Env} {gsc : Scope} {L : GSt → Loc} {loc : Loc} {F : GFun} {m : Nat} {c : Code} {fs : List Frame} {σ σ₁ : Hp} {own : Own} {r : Option MV} {st st' : GSt}

/-- how a turn of a generator ends -/
def GPost (W : Wd) (B : Nat) (cx : Cx) (g₀ : Heap) (ρ₀ : Rho) (s₀ : Shared) (env : Env) (L : GSt → Loc) (F : GFun) (m : Nat) (r : Option MV) (σ₁ : Hp) (st' : GSt) : End → Shared → Prop := fun e s' =>
  ∃ g' ρ', Step cx g₀ ρ₀ s₀ g' ρ' s' ∧ Good W cx g' ρ' (L st') σ₁ s' ∧ match e with
      | .ret x => x = .ok (.ret .none) ∧ r = none
      | .susp v gd l k c p fs => ∃ mv, r = some mv ∧ VRel g' ρ' mv v ∧ ∃ own', OwnOk g' ρ' st' own' ∧ GSpec W B env L F m st' own' (End.susp v gd l k c p fs).genState

/-- a piece of a generator's turn -/
@[irreducible] def GP (W : Wd) (B : Nat) (env : Env) (L : GSt → Loc) (F : GFun) (m : Nat) (r : Option MV) (σ₁ : Hp) (st' : GSt) (c : Code) (t : Sem Fin) (fs : List Frame) (loc : Loc) (σ : Hp) (own : Own) : Prop :=
  ∀ n A stk kept g₀ ρ₀ s₀ g ρ s, GAt B n A stk kept env.locals → Step (genCx A env stk kept) g₀ ρ₀ s₀ g ρ s → Good W (genCx A env stk kept) g ρ loc σ s → (∀ x ∈ own, VRel g ρ (.obj x.1) x.2) →
    SegX (Mo W) A c t fs s (GPost W B (genCx A env stk kept) g₀ ρ₀ s₀ env L F m r σ₁ st')

/-- all the turns that follow -/
def GT (W : Wd) (B : Nat) (env : Env) (L : GSt → Loc) (F : GFun) : Nat → GSt → Own → Code → Sem Fin → List Frame → Prop
  | 0, _, _, _, _, _ => True
  | m + 1, st, own, c, t, fs => (∀ x ∈ own, x.1 ∈ st.1) → ∀ σ r upd st', F st σ = some (r, upd, st') → GP W B env L F m r (upd σ) st' c t fs (L st) σ own

theorem gspec_fresh (h : GT W B env L F m st own c (denote table c) []) : GSpec W B env L F m st own (.fresh c) := by with_unfolding_all
  cases m with
  | zero => exact trivial
  | succ m =>
    intro n A stk kept g ρ σ s r upd st' hA G hO hF
    exact h (fun x hx => (hO x hx).1) σ r upd st' hF n A stk kept g ρ s g ρ s hA .refl G fun x hx => (hO x hx).2
theorem gspec_susp {k : Resume → Sem Fin} {l : List Value} {p : Pos} {cl : Bool} (h : GT W B env L F m st own c (k (.send .none)) fs) : GSpec W B env L F m st own (.suspended k l c p fs cl) := by with_unfolding_all
  cases m with
  | zero => exact trivial
  | succ m =>
    intro n A stk kept g ρ σ s r upd st' hA G hO hF
    exact h (fun x hx => (hO x hx).1) σ r upd st' hF n A stk kept g ρ s g ρ s hA .refl G fun x hx => (hO x hx).2

/-- the code that runs in the generator's frame, beneath its loops -/
structure OverOk (env : Env) (c : Code) (fs : List Frame) (j : Nat) : Prop where
  hd : ∀ A : Around, A.handled = none → (A.over c fs).handled = none
  dep : ∀ A : Around, (A.over c fs).depth ≤ A.depth + 4
  un : ∀ A : Around, (A.over c fs).units ≤ A.units + 3 + j
  fr : ∀ (A : Around) stk, A.frames = some stk → (A.over c fs).frames = some (env :: stk)
  sp : splitAtGen fs = none
  gd : fs.any Frame.guarded = false

theorem OverOk.func {body : List Stmt} : OverOk env (.func body env) [] 0 := ⟨fun A h => h, fun A => by show A.depth + 0 + 1 ≤ _; omega, fun A => by show A.units + 0 + 3 ≤ _; omega, fun A stk h => by show pushEnvs [env] (pushEnvs [] A.frames) = _; rw [h]; rfl, rfl, rfl⟩
theorem OverOk.push {j : Nat} {c' : Code} {k : Result → Sem Fin} {p : Pos} (h : OverOk env c fs j) (hw : c'.weight = 0) (hu : c'.cUnits ≤ 1) (he : c'.envs = []) : OverOk env c' (.ret k none false [] c p [] :: fs) (j + 1) := by
  refine ⟨fun A hA => h.hd A hA, fun A => ?_, fun A => ?_, fun A stk hA => ?_, ?_, ?_⟩
  · have := h.dep A
    show A.depth + frameCount ((c, p) :: fs.map Frame.where_) + c'.weight ≤ _
    rw [frameCount_cons, hw]
    have : A.depth + frameCount (fs.map Frame.where_) + c.weight ≤ A.depth + 4 := this
    omega
  · have := h.un A
    show A.units + unitsOf ((c, p) :: fs.map Frame.where_) + c'.cUnits ≤ _
    rw [unitsOf_cons]
    have : A.units + unitsOf (fs.map Frame.where_) + c.cUnits ≤ A.units + 3 + j := this
    omega
  · have := h.fr A stk hA
    show pushEnvs c'.envs (pushEnvs (envsOf ((c, p) :: fs.map Frame.where_)) A.frames) = _
    rw [he, envsOf_cons]
    have : pushEnvs c.envs (pushEnvs (envsOf (fs.map Frame.where_)) A.frames) = some (env :: stk) := this
    rw [← this]
    simp only [pushEnvs_eq, List.nil_append, Option.map_map]
    cases A.frames <;> simp
  · show (splitAtGen fs).map _ = _
    rw [h.sp]; rfl
  · show (false || fs.any _) = false
    rw [h.gd]; rfl
theorem OverOk.loop {j : Nat} {k : Result → Sem Fin} {p : Pos} {t : Expr} {v : Value} {b e : List Stmt} (h : OverOk env c fs j) : OverOk env (.forLoop t v b e env) (.ret k none false [] c p [] :: fs) (j + 1) := h.push rfl (by show 0 ≤ 1; omega) rfl

theorem GAt.cok {n j : Nat} {A : Around} {stk : List Env} {kept : List (Addr × Data)} (h : GAt B n A stk kept env.locals) (E : GenEnv env gsc env.locals L) (o : OverOk env c fs j) (hj : j ≤ 9) :
    COkS W (n + 1) gsc ((genCx A env stk kept).at (A.over c fs)) := by with_unfolding_all
  have hn := h.hn
  have hd := h.dep
  have hu := h.un
  have e : (n + 1) % 1000 = n + 1 := by omega
  refine { scE := E.sc, kind := E.kind, glob := E.glob, blt := E.blt, hd := fun _ => o.hd A h.hd, dep := ?_, un := ?_, fr := o.fr A stk h.fr, top := ⟨env, stk, rfl, rfl⟩, cellL := fun x hx => ?_, stk := fun x hx => ?_, keptL := h.kept, cellx := fun x hx => absurd hx (E.nocell x), top' := ⟨stk, rfl⟩, frm := E.fr, cells := ?_, keptC := fun x a hk => ?_ }
  · have := o.dep A
    show (A.over c fs).depth ≤ _
    rw [e]; omega
  · have := o.un A
    show (A.over c fs).units ≤ _
    rw [e]; omega
  · rw [show ((genCx A env stk kept).at (A.over c fs)).env.cells = [] from E.cells] at hx; cases hx
  · rcases List.mem_cons.mp hx with rfl | hx
    · exact ⟨by rw [E.sc, E.kind]; exact nofun, _, E.fr, .inl rfl⟩
    · obtain ⟨a, L, b, d⟩ := h.stk x hx
      exact ⟨a, L, b, .inr d⟩
  · rw [show ((genCx A env stk kept).at (A.over c fs)).env.cells = [] from E.cells]; exact .nil
  · exact absurd (by rw [← E.sc]; exact hk) (E.nocell x)
end
end
section
open PySem PySem.W PyProof.Rows PySem.W.X
section
variable {W : Wd} {B : Nat} {env : Env} {gsc : Scope} {L : GSt → Loc} {loc : Loc} {F : GFun} {m : Nat} {c : Code} {fs : List Frame} {σ σ₁ : Hp} {own : Own} {r : Option MV} {st st' : GSt} {K : Flow → Sem Fin} {H : Value → Sem Fin} {j : Nat}

theorem SegX.post_mono {A : Around} {t : Sem Fin} {s : Shared} {P P' : End → Shared → Prop} (h : ∀ e s', P e s' → P' e s') (x : SegX (Mo W) A c t fs s P) : SegX (Mo W) A c t fs s P' := SegX.mono x h

theorem g_expr {e : Expr} {t : Value → Sem Fin} {pos : Pos} (E : GenEnv env gsc env.locals L) (o : OverOk env c fs j) (hj : j ≤ 9) {α : Type} {f : Value → Sem α} {K : α → Sem Fin} {H : Value → Sem Fin} {gd lv}
    (h : ∀ n, n ≤ B + 1 → EvP W n gsc e loc σ (fun mv σ' => ∀ n A stk kept g₀ ρ₀ s₀ g ρ s v, GAt B n A stk kept env.locals → Step (genCx A env stk kept) g₀ ρ₀ s₀ g ρ s → Good W (genCx A env stk kept) g ρ loc σ' s → (∀ x ∈ own, VRel g ρ (.obj x.1) x.2) → VRel g ρ mv v → SegX (Mo W) A c ((f v).wrap K H gd lv) fs s (GPost W B (genCx A env stk kept) g₀ ρ₀ s₀ env L F m r σ₁ st')) NE) :
    GP W B env L F m r σ₁ st' c ((eval e env >>= f).wrap K H gd lv) fs loc σ own := by with_unfolding_all exact (fun n A stk kept g₀ ρ₀ s₀ g ρ s hA st₀ G hO => by
  refine s_wb (wpAny_mono (h (n + 1) (by have := hA.hn; omega) _ g ρ s (hA.cok E o hj).toCOk (G.at _)) (fun v s' q => ?_) fun x s' q => (XPost.none q).elim)
  obtain ⟨mv, σ', g', ρ', k, st, G', rv⟩ := q
  exact k n A stk kept g₀ ρ₀ s₀ g' ρ' s' v hA (st₀.trans st.un) G'.un (fun x hx => (hO x hx).mono st.ge st.re) rv)

/-- a statement without a yield -/
theorem g_stmt {sm : Stmt} (E : GenEnv env gsc env.locals L) (o : OverOk env c fs j) (hj : j ≤ 9)
    (h : ∀ n, n ≤ B + 1 → ExP W n gsc sm loc σ (fun fl loc' σ' => fl = .next ∧ GP W B env L F m r σ₁ st' c (K .next) fs loc' σ' own) (fun _ _ _ => False)) :
    GP W B env L F m r σ₁ st' c ((exec sm env).wrap K H id id) fs loc σ own := by with_unfolding_all exact (fun n A stk kept g₀ ρ₀ s₀ g ρ s hA st₀ G hO => by
  refine s_wrap (wpAny_mono (h (n + 1) (by have := hA.hn; omega) _ g ρ s (hA.cok E o hj) (G.at _)) (fun f s' q => ?_) fun x s' q => ?_)
  · obtain ⟨fl, l', σ', g', ρ', ⟨rfl, k⟩, st, G', fr⟩ := q
    cases fr
    exact k n A stk kept g₀ ρ₀ s₀ g' ρ' s' hA (st₀.trans st.un) G'.un (fun x hx => (hO x hx).mono st.ge st.re)
  · obtain ⟨xc, l', σ', g', ρ', h₀, k, _⟩ := q
    exact k.elim)

theorem g_cons {sm : Stmt} {rest : List Stmt} (h : GP W B env L F m r σ₁ st' c ((exec sm env).wrap (fun f => match f with | .next => (execs rest env).wrap K H id id | f => K f) H id id) fs loc σ own) :
    GP W B env L F m r σ₁ st' c ((execs (sm :: rest) env).wrap K H id id) fs loc σ own := by with_unfolding_all rw [execs_cons_wrap]; exact h
theorem g_nil (h : GP W B env L F m r σ₁ st' c (K .next) fs loc σ own) : GP W B env L F m r σ₁ st' c ((execs [] env).wrap K H id id) fs loc σ own := by with_unfolding_all exact (h)

theorem g_if {test : Expr} {body orelse : List Stmt} {pos : Pos} (E : GenEnv env gsc env.locals L) (o : OverOk env c fs j) (hj : j ≤ 9)
    (h : ∀ n, n ≤ B + 1 → TsP W n gsc test loc σ (fun b σ' => GP W B env L F m r σ₁ st' c ((if b then execs body env else execs orelse env).wrap K H id id) fs loc σ' own) NE) :
    GP W B env L F m r σ₁ st' c ((exec (.If test body orelse pos) env).wrap K H id id) fs loc σ own := by with_unfolding_all exact (fun n A stk kept g₀ ρ₀ s₀ g ρ s hA st₀ G hO => by
  rw [exec_If]
  refine s_wb (wpAny_standAt ?_)
  refine s_wb (wpAny_mono (h (n + 1) (by have := hA.hn; omega) _ g ρ s (hA.cok E o hj).toCOk (G.at _)) (fun b s' q => ?_) fun x s' q => (XPost.none q).elim)
  obtain ⟨σ', g', ρ', k, st, G'⟩ := q
  exact k n A stk kept g₀ ρ₀ s₀ g' ρ' s' hA (st₀.trans st.un) G'.un (fun x hx => (hO x hx).mono st.ge st.re))

/-- a yield that stands alone -/
theorem g_yield {e : Expr} {ypos pos : Pos} (E : GenEnv env gsc env.locals L) (o : OverOk env c fs j) (hj : j ≤ 9) (hi : interactive env = false)
    (h : ∀ n, n ≤ B + 1 → EvP W n gsc e loc σ (fun mv σ' => r = some mv ∧ σ' = σ₁) NE) (hsub : SubL (L st') loc) (hown : ∀ x ∈ own, x.1 ∈ st'.1) (tail : GT W B env L F m st' own c (K .next) fs) :
    GP W B env L F m r σ₁ st' c ((exec (.Expr (.Yield (some e) ypos) pos) env).wrap K H id id) fs loc σ own := by with_unfolding_all
  rw [exec_Expr env _ pos hi rfl]
  intro n A stk kept g₀ ρ₀ s₀ g ρ s hA st₀ G hO
  refine s_wb (wpAny_standAt ?_)
  have hy : ∀ v, yieldOut env v = yieldValue v := fun v => by simp only [yieldOut, E.sc, E.gen, Bool.false_eq_true, if_false]
  rw [show eval (.Yield (some e) ypos) env = (eval e env >>= fun v => (standAt ypos >>= fun _ => yieldOut env v)) from rfl]
  simp only [hy]
  rw [Sem.bind_eq_wrap', Sem.wrap_wrap]
  refine s_wb (wpAny_mono (h (n + 1) (by have := hA.hn; omega) _ g ρ s (hA.cok E o hj).toCOk (G.at _)) (fun v s' q => ?_) fun x s' q => (XPost.none q).elim)
  obtain ⟨mv, σ', g', ρ', ⟨rfl, rfl⟩, st, G', rv⟩ := q
  refine s_wb (wpAny_standAt ?_)
  refine s_yield W.prog W.w A c fs _ s' v _ _ o.sp o.gd fun p => ⟨g', ρ', st₀.trans st.un, G'.un.weaken hsub, mv, rfl, rv, own, fun x hx => ⟨hown x hx, (hO x hx).mono st.ge st.re⟩, ?_⟩
  exact gspec_susp tail

theorem g_for {target iter : Expr} {body : List Stmt} {pos : Pos} (E : GenEnv env gsc env.locals L) (o : OverOk env c fs j) (hj : j ≤ 9) (hs : ∀ env x, foldedSetIterable iter env x = pure x)
    (h : ∀ n, n ≤ B + 1 → EvP W n gsc iter loc σ (fun mv σ' => IterP W n mv σ' (fun k σ'' => ∀ itv p, GP W B env L F m r σ₁ st' (.forLoop target itv body [] env) (denote table (.forLoop target itv body [] env)) (.ret (loopK env K H) none false [] c p [] :: fs) loc σ'' ((k, itv) :: own))) NE) :
    GP W B env L F m r σ₁ st' c ((exec (.For target iter body [] pos) env).wrap K H id id) fs loc σ own := by with_unfolding_all exact (fun n A stk kept g₀ ρ₀ s₀ g ρ s hA st₀ G hO => by
  have C := (hA.cok (W := W) E o hj).toCOk
  refine s_for (wpAny_mono (h (n + 1) (by have := hA.hn; omega) _ g ρ s C (G.at _)) (fun v s' q => ?_) fun x s' q => (XPost.none q).elim) (hs env)
  obtain ⟨mv, σ', g', ρ', k, st, G', rv⟩ := q
  refine wpAny_mono (k _ _ g' ρ' loc s' v _ C G' rv) (fun it s₂ q => ?_) fun _ _ x => x
  obtain ⟨mv', σ₂, g₂, ρ₂, ⟨kk, rfl, hL⟩, st₂, G₂, r₂⟩ := q
  have stt := st.un.trans st₂.un
  intro p
  exact hL it p n A stk kept g₀ ρ₀ s₀ g₂ ρ₂ s₂ hA (st₀.trans stt) G₂.un (fun x hx => by
    rcases List.mem_cons.mp hx with rfl | hx
    · exact r₂
    · exact (hO x hx).mono stt.ge stt.re))

/-- what follows the body of a loop -/
def turnK (target : Expr) (itv : Value) (body : List Stmt) (env : Env) : Flow → Sem Fin := fun f => match f with
  | .next | .cont => .pure (.again (.forLoop target itv body [] env))
  | .brk => .pure (.done .next)
  | .ret v => .pure (.done (.ret v))
def turnH (env : Env) : Value → Sem Fin := fun e => (do noteFrame e env; theTreesLotGoes e : Sem Unit).wrap (fun _ => .raise e) .raise id id

theorem g_again {target : Expr} {itv : Value} {body : List Stmt} {fs' : List Frame} (h : GP W B env L F m r σ₁ st' (.forLoop target itv body [] env) (denote table (.forLoop target itv body [] env)) fs' loc σ own) :
    GP W B env L F m r σ₁ st' (.forLoop target itv body [] env) (turnK target itv body env .next) fs' loc σ own := by with_unfolding_all exact (fun n A stk kept g₀ ρ₀ s₀ g ρ s hA st₀ G hO =>
  s_again W.prog W.w A _ fs' _ s _ rfl (h n A stk kept g₀ ρ₀ s₀ g ρ s hA st₀ G hO))

theorem g_turn {target : Expr} {itv : Value} {body : List Stmt} {k : Nat} {p : Pos} (E : GenEnv env gsc env.locals L) (o : OverOk env (.forLoop target itv body [] env) (.ret (loopK env K H) none false [] c p [] :: fs) j) (hj : j ≤ 9) (hk : (k, itv) ∈ own)
    (h : ∀ n, n ≤ B + 1 → NxtP W n target k σ (fun mv σ' => AsQ W n gsc target mv loc σ' (fun loc₂ σ₂ => GP W B env L F m r σ₁ st' (.forLoop target itv body [] env) ((execs body env).wrap (turnK target itv body env) (turnH env) id id) (.ret (loopK env K H) none false [] c p [] :: fs) loc₂ σ₂ own))
      (fun σ' => GP W B env L F m r σ₁ st' c (K .next) fs loc σ' own)) :
    GP W B env L F m r σ₁ st' (.forLoop target itv body [] env) (denote table (.forLoop target itv body [] env)) (.ret (loopK env K H) none false [] c p [] :: fs) loc σ own := by with_unfolding_all exact (fun n A stk kept g₀ ρ₀ s₀ g ρ s hA st₀ G hO => by
  have C := (hA.cok (W := W) E o hj).toCOk
  show SegX _ A _ ((forTurn target itv body [] env).onRaise (fun x => do noteFrame x env; theTreesLotGoes x)) _ _ _
  unfold forTurn
  rw [Sem.onRaise_eq_wrap]
  rw [Sem.bind_eq_wrap', Sem.wrap_wrap]
  refine s_wrap (wpAny_standAt ?_)
  refine s_wb ?_
  refine wpAny_onRaise (wpAny_mono (h (n + 1) (by have := hA.hn; omega) _ _ g ρ loc s itv (fun _ _ => False) C (G.at _) (hO _ hk)) (fun x s' q => ?_) fun _ _ x => x.elim)
  cases x with
  | none =>
    obtain ⟨σ', g', ρ', hE, st, G'⟩ := q
    refine s_again W.prog W.w A _ _ _ s' (.block [] env) rfl ?_
    refine s_pop W.prog W.w A _ fs _ s' (.ok .next) _ rfl _ _ _ _ c p [] ?_
    exact hE n A stk kept g₀ ρ₀ s₀ g' ρ' s' hA (st₀.trans st.un) G'.un (fun x hx => (hO x hx).mono st.ge st.re)
  | some x =>
    refine s_wb (wpAny_mono q (fun _ s₂ q => ?_) fun _ _ x => x)
    obtain ⟨mv, σ₂, g₂, ρ₂, hA₂, st₂, G₂, r₂⟩ := q
    refine s_wb (wpAny_mono (hA₂ _ g₂ ρ₂ s₂ x _ C G₂ r₂) (fun _ s₃ q => ?_) fun _ _ x => x)
    obtain ⟨loc₃, σ₃, g₃, ρ₃, hB, st₃, G₃⟩ := q
    have stt := st₂.un.trans st₃.un
    rw [Sem.bind_eq_wrap', Sem.wrap_wrap]
    rw [Sem.wrap_congr (execs body env) _ _ (K' := turnK target itv body env) (H' := turnH env) (fun f => by cases f <;> rfl)
        (fun e => by first | rfl | exact Sem.bind_eq_wrap _ _)]
    exact hB n A stk kept g₀ ρ₀ s₀ g₃ ρ₃ s₃ hA (st₀.trans stt) G₃.un (fun x hx => (hO x hx).mono stt.ge stt.re))

/-- the generator's own end -/
theorem g_end {body : List Stmt} (hr : r = none) (hσ : σ = σ₁) (hsub : SubL (L st') loc) : GP W B env L F m r σ₁ st' (.func body env) (funK .next) [] loc σ own := by with_unfolding_all exact (fun n A stk kept g₀ ρ₀ s₀ g ρ s hA st₀ G hO => by
  subst hr hσ
  exact s_end W.prog W.w A _ _ s (.ok (.ret .none)) _ rfl ⟨g, ρ, st₀, G.weaken hsub, rfl, rfl⟩)
theorem g_start {body : List Stmt} (h : GP W B env L F m r σ₁ st' (.func body env) ((execs body env).wrap funK (funH env) id id) [] loc σ own) : GP W B env L F m r σ₁ st' (.func body env) (denote table (.func body env)) [] loc σ own := by with_unfolding_all exact (fun n A stk kept g₀ ρ₀ s₀ g ρ s hA st₀ G hO =>
  s_func (h n A stk kept g₀ ρ₀ s₀ g ρ s hA st₀ G hO))
theorem GP.weaken {t : Sem Fin} {loc' : Loc} (h : GP W B env L F m r σ₁ st' c t fs loc' σ own) (hs : SubL loc' loc) : GP W B env L F m r σ₁ st' c t fs loc σ own := by with_unfolding_all exact (fun n A stk kept g₀ ρ₀ s₀ g ρ s hA st₀ G hO =>
  h n A stk kept g₀ ρ₀ s₀ g ρ s hA st₀ (G.weaken hs) hO)
theorem GP.drop {t : Sem Fin} {own' : Own} (h : GP W B env L F m r σ₁ st' c t fs loc σ own') (hs : ∀ x ∈ own', x ∈ own) : GP W B env L F m r σ₁ st' c t fs loc σ own := by with_unfolding_all exact (fun n A stk kept g₀ ρ₀ s₀ g ρ s hA st₀ G hO =>
  h n A stk kept g₀ ρ₀ s₀ g ρ s hA st₀ G (fun x hx => hO x (hs x hx)))
end
end
section
open PySem PySem.W PyProof.Rows PySem.W.X
structure Sy (W : Wd) (K : Frag) : Prop extends Sx W K where
  nosq : noSeq K 527 = true
  fngi : fnIn K 302 = true

section
variable {W : Wd} {Kf : Frag} {c : Cx} {g g₁ : Heap} {ρ ρ₁ : Rho} {loc loc' : Loc} {σ σ' : Hp} {s s₁ : Shared} {n : Nat} {sc scope : Scope}
variable {K : MV → Hp → Prop} {KE : Xc → Hp → Prop}

/-- the special method of a Headers -/
structure SpAt (W : Wd) (Kf : Frag) (s : Shared) (v : Value) (x : Str) (f : Addr) : Prop where
  inst : ∃ a od, v = .ref a ∧ ∃ d, InstAt s.heap a (instObj hdrCls d) hdrCls (some od)
  inK : Kf.In s.heap
  find : findIn Kf (.ref hdrCls) x = some (some (.ref f))
  fn : isFn Kf (.ref f) = true
theorem spAt (F : Sf W Kf) (G : Good W c g ρ loc σ s) {k l : Nat} {v : Value} (hm : σ[k]? = some (.inst (some l))) (r : VRel g ρ (.obj k) v) {x : Str} {f : Addr} (hx : (x, f) ∈ hdrMeths) : SpAt W Kf s v x f := by
  obtain ⟨a, d, od, rfl, I, _⟩ := inst_at G hm ⟨_, rfl⟩ r
  obtain ⟨h1, h2, h3, h4⟩ := F.meth x f hx
  exact ⟨⟨a, od, rfl, d, I⟩, Frag.In.keeps F.inK G.baseIn, h2, h3⟩

theorem call_len_inst (F : Sf W Kf) {k l : Nat} (hm : σ[k]? = some (.inst (some l))) (hn : n ≤ 50) (h : CallM W (n + 1) (.ref 422) [.obj k] [] σ (fun m σ' => ∃ i : Nat, i < 100000 ∧ m = .int i ∧ K (.int i) σ') KE) : CallM W n (.builtin "len") [.obj k] [] σ K KE := by with_unfolding_all exact (fun sc c g ρ loc s vs kvs C G r kr => by
  cases kr
  cases r with | cons r₁ r₂ =>
  cases r₂
  have S := spAt F G hm r₁ (x := "__len__") (f := 422) (by decide)
  obtain ⟨⟨a, od, rfl, d, I⟩, X, hs, hf⟩ := S
  refine Calls.call_function_entry kind_len plain_len entry_len (args_len1 _) ?_
  unfold Builtin.«len»
  refine wpAny_bind (m := oneArg "len" _) (wpAny_pure ?_)
  refine wpAny_bind (m := callSpecial? (.ref a) (Str.ofString "__len__")) (special_fn X I hs (beq_iff_eq.mp hf) (wpAny_mono (h sc _ g ρ loc s [.ref a] [] (C.in1 hn) (G.at _) (.cons r₁ .nil) .nil) (fun v s' q => ?_) fun _ _ y => y.un))
  obtain ⟨m, σ', g', ρ', ⟨i, hi, rfl, hK⟩, st, G', rv⟩ := q
  cases rv
  refine wpAny_bind (wpAny_holding (wpAny_pure ?_))
  refine wpAny_bind (wpAny_letGo ?_)
  show wpAny _ _ (if (i : Int) < 0 then _ else _) _ _ _
  rw [if_neg (by omega)]
  show wpAny _ _ (if (i : Int) ≥ 2 ^ 63 then _ else _) _ _ _
  rw [if_neg (by omega)]
  exact wpAny_bind (wpAny_mkInt (wpAny_pure ⟨_, rfl, _, σ', g', ρ', hK, st.un.trans (Step.tok _), (G'.un).tok _, .int _ _⟩)))

theorem iter_inst (F : Sf W Kf) {k l : Nat} (hm : σ[k]? = some (.inst (some l))) {K : Nat → Hp → Prop} (h : CallM W n (.ref 415) [.obj k] [] σ (fun m σ' => ∃ i src p, m = .obj i ∧ σ'[i]? = some (.sem (listIt src p)) ∧ K i σ') (fun _ _ => False)) : IterP W n (.obj k) σ K := by with_unfolding_all exact (fun sc c g ρ loc s v E C G r => by
  have S := spAt F G hm r (x := "__iter__") (f := 415) (by decide)
  obtain ⟨⟨a, od, rfl, d, I⟩, X, hs, hf⟩ := S
  have back : wpAny (Mo W) c.A (call (.ref 415) [.ref a]) (fun it s' => ∃ r' i', it = .ref r' ∧ (∃ la, s'.heap.IsListIter r' la i') ∧ Post W c g ρ loc s (fun m σ' => ∃ k', m = .obj k' ∧ K k' σ') it s') E s := by
    refine wpAny_mono (h sc c g ρ loc s [.ref a] [] C G (.cons r .nil) .nil) (fun it s' q => ?_) fun x s' q => (XPost.none q).elim
    obtain ⟨m, σ', g', ρ', ⟨i, src, p, rfl, hi, hK⟩, st, G', rv⟩ := q
    obtain ⟨⟨a', a2⟩, hp, rfl, e2, o, ho, la, hr, hcl, hd⟩ := sem_at G' hi rv
    cases e2
    exact ⟨a', p, rfl, ⟨la, o, ho, hcl, hd⟩, _, σ', g', ρ', ⟨i, rfl, hK⟩, st, G', rv⟩
  have fin : ∀ refuse : Sem Value, wpAny (Mo W) c.A (if (Value.ref 415 == Value.none) = true then (refuse >>= fun v => pure (some v)) else (call (.ref 415) [.ref a] >>= fun v => pure (some v))) (fun r s' => ∃ it, r = some it ∧ ∃ r' i', it = .ref r' ∧ (∃ la, s'.heap.IsListIter r' la i') ∧ Post W c g ρ loc s (fun m σ' => ∃ k', m = .obj k' ∧ K k' σ') it s') E s := fun refuse => by
    rw [if_neg (show ¬ ((Value.ref 415 == Value.none) = true) from Bool.false_ne_true)]
    exact wpAny_bind (wpAny_mono back (fun v s' h' => wpAny_pure ⟨v, rfl, h'⟩) fun _ _ z => z)
  have one : ∀ refuse : Sem Value, wpAny (Mo W) c.A (callSpecialIfBoundUnlessNone? (.ref a) "__iter__" refuse) (fun r s' => ∃ it, r = some it ∧ ∃ r' i', it = .ref r' ∧ (∃ la, s'.heap.IsListIter r' la i') ∧ Post W c g ρ loc s (fun m σ' => ∃ k', m = .obj k' ∧ K k' σ') it s') E s := fun refuse => by
    simp only [callSpecialIfBoundUnlessNone?, bindSpecialIfBound?]
    refine wpAny_holding (wpAny_bind (wpAny_bind (wpAny_bind (I.type.here ((looks_findIn X hs).here ?_)))))
    refine wpAny_bind (wpAny_askSetting (wpAny_ite ?_))
    split
    · exact wpAny_bind ((bind_fn X _ (beq_iff_eq.mp hf)).here (wpAny_pure (by exact fin refuse)))
    · exact wpAny_tryCatch (wpAny_bind ((bind_fn X _ (beq_iff_eq.mp hf)).here (wpAny_pure (by exact fin refuse))))
  unfold pyIter
  refine wpAny_bind (wpAny_bind (I.type.here ((looks_findIn X hs).here ?_)))
  show wpAny _ _ (callSpecialIfBoundUnlessNone? (.ref a) "__iter__" _ >>= _) _ E s
  refine wpAny_bind (wpAny_mono (one _) (fun r s' hr => ?_) fun _ _ z => z)
  obtain ⟨it, rfl, r', i', rfl, ⟨la, hit⟩, hP⟩ := hr
  refine wpAny_bind (wpAny_specialOf (name := Str.ofString "__next__") hit.typeIs slot_listiter_next.lookup ?_)
  exact wpAny_pure hP)

theorem op_in_inst (F : Sf W Kf) {k l : Nat} {m : MV} (hm : σ[k]? = some (.inst (some l))) (h : CallM W n (.ref 408) [.obj k, m] [] σ (fun m' σ' => ∃ b, m' = .bool b ∧ K (.bool b) σ') KE) : Op2 W n (compareOp .In) m (.obj k) σ K KE := by with_unfolding_all exact (fun sc c g ρ loc s v₁ v₂ C G r₁ r₂ => by
  have S := spAt F G hm r₂ (x := "__contains__") (f := 408) (by decide)
  obtain ⟨⟨a, od, rfl, d, I⟩, X, hs, hf⟩ := S
  show wpAny _ _ (contains (.ref a) v₁ >>= _) _ _ _
  refine wpAny_bind ?_
  unfold contains
  refine wpAny_holding (wpAny_bind (wpAny_bind (I.type.here ((looks_findIn X hs).here ?_))))
  rw [if_neg (by simp)]
  refine wpAny_bind (unlessNone_K X I hs hf (wpAny_mono (h sc c g ρ loc s [.ref a, v₁] [] C G (.cons r₂ (.cons r₁ .nil)) .nil) (fun v s' q => ?_) fun _ _ z => z))
  obtain ⟨m', σ', g', ρ', ⟨b, rfl, hK⟩, st, G', rv⟩ := q
  cases rv
  exact wpAny_truthy_bool (wpAny_pure ⟨_, σ', g', ρ', hK, st, G', .bool _⟩))
theorem op_notin_inst (F : Sf W Kf) {k l : Nat} {m : MV} (hm : σ[k]? = some (.inst (some l))) (h : CallM W n (.ref 408) [.obj k, m] [] σ (fun m' σ' => ∃ b, m' = .bool b ∧ K (.bool (!b)) σ') KE) : Op2 W n (compareOp .NotIn) m (.obj k) σ K KE := by with_unfolding_all exact (fun sc c g ρ loc s v₁ v₂ C G r₁ r₂ => by
  have S := spAt F G hm r₂ (x := "__contains__") (f := 408) (by decide)
  obtain ⟨⟨a, od, rfl, d, I⟩, X, hs, hf⟩ := S
  show wpAny _ _ (contains (.ref a) v₁ >>= _) _ _ _
  refine wpAny_bind ?_
  unfold contains
  refine wpAny_holding (wpAny_bind (wpAny_bind (I.type.here ((looks_findIn X hs).here ?_))))
  rw [if_neg (by simp)]
  refine wpAny_bind (unlessNone_K X I hs hf (wpAny_mono (h sc c g ρ loc s [.ref a, v₁] [] C G (.cons r₂ (.cons r₁ .nil)) .nil) (fun v s' q => ?_) fun _ _ z => z))
  obtain ⟨m', σ', g', ρ', ⟨b, rfl, hK⟩, st, G', rv⟩ := q
  cases rv
  exact wpAny_truthy_bool (wpAny_pure ⟨_, σ', g', ρ', hK, st, G', .bool _⟩))

theorem sub_inst (F : Sy W Kf) {k l : Nat} {m : MV} {i : Expr} (hm : σ[k]? = some (.inst (some l))) (hn : n ≤ 50) (hsl : ∀ a b, subscripted i true a b = runValue (.builtin "lifetime.subscript" ⟨[a, b], []⟩))
    (h : CallM W (n + 1) (.ref 302) [.obj k, m] [] σ K KE) : Op2 W n (fun a b => do subscripted i (← getitemInPython a) a b) (.obj k) m σ K KE := by with_unfolding_all exact (fun sc c g ρ loc s v₁ v₂ C G r₁ r₂ => by
  have S := spAt F.toSf G hm r₁ (x := "__getitem__") (f := 302) (by decide)
  obtain ⟨⟨a, od, rfl, d, I⟩, X, hs, hfn⟩ := S
  have hf := F.fngi
  unfold fnIn at hf
  split at hf
  · rename_i e
    unfold getitemInPython
    refine wpAny_bind (wpAny_bind (wpAny_bind (I.type.here ((looks_findIn X hs).here ?_))))
    dsimp only
    refine wpAny_bind (wpAny_load (X _ _ e) (wpAny_pure ?_))
    dsimp only
    rw [hsl]
    refine wpAny_runValue (codeAny_builtin entry_sub ?_)
    unfold Builtin.«lifetime.subscript»
    refine wpAny_bind (special_fn X I hs (beq_iff_eq.mp hfn) (wpAny_mono (h sc _ g ρ loc s [.ref a, v₂] [] (C.in1 hn) (G.at _) (.cons r₁ (.cons r₂ .nil)) .nil) (fun v s' q => ?_) fun _ _ y => y.un))
    exact wpAny_pure q.un
  · cases hf)

theorem setItem_inst (F : Sy W Kf) {k l : Nat} {m₁ m₂ : MV} {K : Hp → Prop} (hm : σ[k]? = some (.inst (some l))) (h : CallM W n (.ref 474) [.obj k, m₁, m₂] [] σ (fun _ σ' => K σ') KE) : St3 W n setItem (.obj k) m₁ m₂ σ K KE := by with_unfolding_all exact (fun sc c g ρ loc s v₁ v₂ v₃ C G r₁ r₂ r₃ => by
  have S := spAt F.toSf G hm r₁ (x := "__setitem__") (f := 474) (by decide)
  obtain ⟨⟨a, od, rfl, d, I⟩, X, hs, hf⟩ := S
  unfold setItem sequenceKey
  refine wpAny_holding (wpAny_bind (wpAny_bind (I.type.here ?_)))
  refine wpAny_bind ((anyM_none X F.nosq).here ?_)
  rw [if_pos (show (!false) = true from rfl)]
  refine wpAny_pure (wpAny_bind (special_fn X I hs (beq_iff_eq.mp hf) (wpAny_mono (h sc c g ρ loc s [.ref a, v₂, v₃] [] C G (.cons r₁ (.cons r₂ (.cons r₃ .nil))) .nil) (fun v s' q => ?_) fun _ _ z => z)))
  obtain ⟨m', σ', g', ρ', hK, st, G', rv⟩ := q
  exact wpAny_pure ⟨σ', g', ρ', hK, st, G'⟩)

theorem call_str_inst (F : Sf W Kf) {k l : Nat} (hm : σ[k]? = some (.inst (some l))) (hn : n ≤ 45) (h : CallM W (n + 2) (.ref 517) [.obj k] [] σ (fun m σ' => ∃ x, m = .str x ∧ K (.str x) σ') KE) : CallM W n (.type "str") [.obj k] [] σ K KE := by with_unfolding_all exact (fun sc c g ρ loc s vs kvs C G r kr => by
  cases kr
  cases r with | cons r₁ r₂ =>
  cases r₂
  have S := spAt F G hm r₁ (x := "__str__") (f := 517) (by decide)
  obtain ⟨⟨a, od, rfl, d, I⟩, X, hs, hf⟩ := S
  have C1 := C.in1 (by omega : n ≤ 50)
  have C2 := C1.in1 (by omega : n + 1 ≤ 50)
  refine kso_call ?_ X I hs hf (wpAny_mono (h sc _ g ρ loc s [.ref a] [] C2 (G.at _) (.cons r₁ .nil) .nil) (fun v s' q => ?_) fun _ _ y => y.un.un)
  · have e : (n + 1 + 1) % 1000 = n + 2 := by omega
    have := C2.un
    rw [e] at this
    exact Nat.lt_of_le_of_lt this (by show 20 * (n + 2) < 9900; omega)
  · obtain ⟨m, σ', g', ρ', ⟨x, rfl, hK⟩, st, G', rv⟩ := q
    cases rv
    exact ⟨_, σ', g', ρ', hK, st.un.un, G'.un.un, .str _ _⟩)

theorem op_eq_inst (F : Sf W Kf) {k l k' l' : Nat} (hm : σ[k]? = some (.inst (some l))) (hm' : σ[k']? = some (.inst (some l'))) (hn : n ≤ 50) (h : CallM W n (.ref 314) [.obj k, .obj k'] [] σ (fun m' σ' => ∃ b, m' = .bool b ∧ K (.bool b) σ') KE) :
    Op2 W n (compareOp .Eq) (.obj k) (.obj k') σ K KE := by with_unfolding_all exact (fun sc c g ρ loc s v₁ v₂ C G r₁ r₂ => by
  have S := spAt F G hm r₁ (x := "__eq__") (f := 314) (by decide)
  obtain ⟨⟨a, od, rfl, d, I⟩, X, hs, hf⟩ := S
  obtain ⟨⟨a', od', rfl, d', I'⟩, _, _, _⟩ := spAt F G hm' r₂ (x := "__eq__") (f := 314) (by decide)
  have hu : c.A.units < cLine := by
    have e := C.un
    exact Nat.lt_of_le_of_lt e (by show 20 * (n % 1000) < 9900; omega)
  have back : wpAny (Mo W) c.A (call (.ref 314) [.ref a, .ref a']) (fun v s' => ∃ b, v = .bool b ∧ Post W c g ρ loc s K (.bool b) s') (XPost W c g ρ loc s KE) s := by
    refine wpAny_mono (h sc c g ρ loc s [.ref a, .ref a'] [] C G (.cons r₁ (.cons r₂ .nil)) .nil) (fun v s' q => ?_) fun _ _ z => z
    obtain ⟨m', σ', g', ρ', ⟨b, rfl, hK⟩, st, G', rv⟩ := q
    cases rv
    exact ⟨b, rfl, _, σ', g', ρ', hK, st, G', .bool _⟩
  have bound : wpAny (Mo W) c.A (callSpecialIfBound? (.ref a) "__eq__" [.ref a']) (fun r s' => ∃ b, r = some (.bool b) ∧ Post W c g ρ loc s K (.bool b) s') (XPost W c g ρ loc s KE) s := by
    simp only [callSpecialIfBound?, bindSpecialIfBound?]
    have fin : wpAny (Mo W) c.A (call (.ref 314) ([.ref a] ++ [.ref a']) >>= fun v => pure (some v)) (fun r s' => ∃ b, r = some (.bool b) ∧ Post W c g ρ loc s K (.bool b) s') (XPost W c g ρ loc s KE) s :=
      wpAny_bind (wpAny_mono back (fun v s' ⟨b, e, q⟩ => wpAny_pure ⟨b, by rw [e], q⟩) fun _ _ z => z)
    refine wpAny_holding (wpAny_bind (wpAny_bind (wpAny_bind (I.type.here ((looks_findIn X hs).here ?_)))))
    refine wpAny_bind (wpAny_askSetting (wpAny_ite ?_))
    split
    · exact wpAny_bind ((bind_fn X _ (beq_iff_eq.mp hf)).here (wpAny_pure (by exact fin)))
    · exact wpAny_tryCatch (wpAny_bind ((bind_fn X _ (beq_iff_eq.mp hf)).here (wpAny_pure (by exact fin))))
  show wpAny _ _ (richCompare .Eq (.ref a) (.ref a')) _ _ _
  unfold richCompare
  simp only [oneThing_ref]
  refine wpAny_holding ?_
  refine wpAny_bind (wpAny_cRoomFor hu ?_)
  dsimp only [cmpInfo]
  refine wpAny_bind (I.type.here ?_)
  refine wpAny_bind (I'.type.here ?_)
  rw [show (Value.ref hdrCls != Value.ref hdrCls) = false from by simp]
  simp only [Bool.false_eq_true, if_false]
  refine wpAny_bind (wpAny_pure ?_)
  simp only [Bool.false_eq_true, if_false]
  unfold tryCompare
  refine wpAny_bind (wpAny_bind (wpAny_mono bound (fun r s' q => ?_) fun _ _ z => z))
  obtain ⟨b, rfl, q⟩ := q
  exact wpAny_pure (wpAny_pure q))
end
end
section
open PySem PySem.W PyProof.Rows
section
variable {W : Wd} {Kf : Frag} {σ : Hp} {n : Nat} {K : MV → Hp → Prop} {KE : Xc → Hp → Prop}


/-- an expression whose value is a text -/
theorem ex_expr_str {loc : Loc} {sc : Scope} {K : Fl → Loc → Hp → Prop} {KE : Xc → Loc → Hp → Prop} {e : Expr} {pos : Pos} (h : EvP W n sc e loc σ (fun m σ₁ => (∃ x, m = .str x) ∧ K .next loc σ₁) (fun x σ₁ => KE x loc σ₁)) (hs : ∀ env, swapsWith e none pos.line env = pure false) :
    ExP W n sc (.Expr e pos) loc σ K KE := by
  unfold EvP at h
  unfold ExP
  intro c g ρ s C G
  rw [exec_Expr _ _ pos C.interactive (hs _)]
  refine wpAny_bind (wpAny_standAt (wpAny_bind (wpAny_mono (h c g ρ s C.toCOk G) (fun v s₁ q => ?_) fun _ _ x => x.toS)))
  obtain ⟨m, σ₁, g₁, ρ₁, ⟨⟨x, rfl⟩, k⟩, st₁, G₁, r⟩ := q
  cases r
  rw [dropValue_plain (fun a => by simp)]
  exact wpAny_pure ⟨.next, loc, σ₁, g₁, ρ₁, k, st₁, G₁, .next⟩

/-- a call's end, when its own things stay -/
theorem cut_all {σ₀ σ' : Hp} {K : MV → Hp → Prop} {m : MV} (e : σ₀.length ≤ σ'.length) (h : wf σ') (hm : m.ok σ'.length = true) (k : K m σ') : Cut σ₀.length K m σ' :=
  ⟨σ'.length, e, hm, by rw [List.take_length]; exact h _ (Nat.le_refl _), by rw [List.take_length]; exact k⟩

theorem meth_at (F : Sx W Kf) {h l : Nat} {x : Str} (f : Addr) {R : Value → Prop} (hm : σ[h]? = some (.inst (some l))) (hR : R (.ref f)) (hx : (x, f) ∈ hdrMeths := by simp [hdrMeths]) (hne : Value.isStr (.str (Str.ofString "_list") 0) x = false := by rfl) :
    ∃ f, GetM W (.obj h) x σ f ∧ KeepOk W f ∧ R f := ⟨.ref f, getM_inst F.toSf hm hx hne, keep_K F.toSf (F.meth _ _ hx).2.2.2, hR⟩

theorem c_iter (F : Sx W Kf) (D : FnD W 415 (hdrStmt 17)) (hn : n ≤ 48) {h l : Nat} {rows : List Row} (H : HasRows σ h l rows) (hw : wf σ)
    (hs : K (.obj σ.length) (σ ++ [.sem (listIt (.obj l) 0)])) :
    CallM W n (.ref 415) [.obj h] [] σ K KE := by
  refine call_cd (by omega) (CdP.cut ?_)
  obtain ⟨r, D⟩ := D
  refine fn_call (body := bodyOf (hdrStmt 17)) D F.lim (by omega) rfl ⟨rfl, rfl, rfl⟩ ?_
  refine bd_pos (ps := ["self"]) (fun vs hv => ?_) rfl ?_
  · match vs, hv with
    | [a], _ => rfl
  refine ⟨rfl, ?_⟩
  walk_at "mv"
  refine ⟨_, rfl, by walk_at "mv_keep", ?_⟩
  walk_at "mv"
  refine op_list_attr F.toSf H.inst ?_
  walk_at "mv"
  refine call_iter (by omega) ?_
  refine iter_list (m := .obj l) (l := rowsM rows) (as_obj H.list) ?_
  refine cut_all (by simp) (hw.app fun k hk => ?_) (by simp [retOf, MV.ok]) hs
  have := (List.getElem?_eq_some_iff.mp H.list).1
  simp [MO.ok, listIt, objSem, MV.ok]; omega

theorem c_len (F : Sx W Kf) (D : FnD W 422 (hdrStmt 18)) (hn : n ≤ 40) {h l : Nat} {rows : List Row} (H : HasRows σ h l rows) (hw : wf σ)
    (hs : K (.int rows.length) σ) :
    CallM W n (.ref 422) [.obj h] [] σ K KE := by
  refine call_cd (by omega) (CdP.cut ?_)
  obtain ⟨r, D⟩ := D
  refine fn_call (body := bodyOf (hdrStmt 18)) D F.lim (by omega) rfl ⟨rfl, rfl, rfl⟩ ?_
  refine bd_pos (ps := ["self"]) (fun vs hv => ?_) rfl ?_
  · match vs, hv with
    | [a], _ => rfl
  refine ⟨rfl, ?_⟩
  walk_at "mv"
  refine ⟨_, rfl, by walk_at "mv_keep", ?_⟩
  walk_at "mv"
  refine op_list_attr F.toSf H.inst ?_
  walk_at "mv"
  refine call_len (as_obj H.list) (by have := H.few; rw [rowsM_len]; omega) ?_
  rw [rowsM_len]
  exact cut_all (Nat.le_refl _) hw rfl hs

theorem c_contains (F : Sx W Kf) (D : FnD W 408 (hdrStmt 16)) (DG : FnD W 309 (hdrStmt 2)) (hn : n ≤ 38) {h l : Nat} {rows : List Row} {key : Str} (hkz : key.length ≤ 100000) (H : HasRows σ h l rows) (hw : wf σ)
    (hs : K (.bool (findRow key rows).isSome) σ) :
    CallM W n (.ref 408) [.obj h, .str key] [] σ K KE := by
  refine call_cd (by omega) (CdP.cut ?_)
  obtain ⟨r, D⟩ := D
  refine fn_call (body := bodyOf (hdrStmt 16)) D F.lim (by omega) rfl ⟨rfl, rfl, rfl⟩ ?_
  refine bd_pos (ps := ["self", "key"]) (fun vs hv => ?_) rfl ?_
  · match vs, hv with
    | [a, b], _ => rfl
  refine ⟨rfl, ?_⟩
  walk_at "mv"
  refine ex_try (xc := .key) F (by omega) rfl rfl rfl ?_
  refine exs_cons ?_
  refine ex_expr_str ?_ (fun _ => rfl)
  walk_at "mv"
  refine meth_at F 309 H.inst ?_
  walk_at "mv"
  refine c_get_key F DG (by omega) hkz H hw (fun r hr => ?_) (fun hr => ?_)
  · refine ⟨⟨_, rfl⟩, ?_⟩
    walk_at "mv"
    rw [hr] at hs
    exact cut_all (m := .bool true) (Nat.le_refl _) hw rfl hs
  · refine ⟨rfl, ?_⟩
    walk_at "mv"
    rw [hr] at hs
    exact cut_all (m := .bool false) (Nat.le_refl _) hw rfl hs
end
end
section
open PySem PySem.W PyProof.Rows
/-- with defaults -/
def FnDs (W : Wd) (a : Addr) (d : Stmt) (dvs : List Value) : Prop := ∃ r T n, FnIs W a (fdOf d r (.ref T)) ∧ W.base.get? T = some (tupObj dvs n)

section
variable {W : Wd} {Kf : Frag} {σ : Hp} {n : Nat} {K : MV → Hp → Prop} {KE : Xc → Hp → Prop}

theorem bd_def {fd : FuncData} {ms : List MV} {ps : List Str} {K : Loc → Hp → Prop} {T : Addr} {dvs : List Value} {n0 : Nat} (hd : fd.defaults = .ref T) (hT : W.base.get? T = some (tupObj dvs n0)) (more : List (MV × Value))
    (hv : ∀ x ∈ more, ∀ g ρ, VRel g ρ x.1 x.2)
    (hb : ∀ vs : List Value, vs.length = ms.length → ∃ k : Option (Array Value) → Sem (List (Str × Value)), bindArgs fd ⟨vs, []⟩ = seqItems? fd.defaults >>= k ∧ k (some dvs.toArray) = pure (ps.zip (vs ++ more.map (·.2))))
    (hl : ps.length = ms.length + more.length) (h : K (ps.zip (ms ++ more.map (·.1))) σ) :
    BdP W n fd ms [] σ K := by with_unfolding_all exact (fun sc c g ρ loc s vs kvs A C G r kr N E => by
  cases kr
  obtain ⟨k, h₁, h₂⟩ := hb vs r.length.symm
  refine BindsTo.of_defaults hd (G.gh _ _ (G.base _ _ hT)) rfl h₁ h₂ (Mo W) A.in1 E _ ?_
  have rm : VRels g ρ (more.map (·.1)) (more.map (·.2)) := by
    clear h hl hb h₁ h₂
    induction more with
    | nil => exact .nil
    | cons x l ih => exact .cons (hv x (.head _) g ρ) (ih fun y hy => hv y (.tail _ hy))
  exact ⟨_, σ, g, ρ, h, .refl, G, BRel.zip (r.append rm) (by simp; exact hl)⟩)
end

section
variable {W : Wd} {Kf : Frag} {σ : Hp} {n : Nat} {K : MV → Hp → Prop} {KE : Xc → Hp → Prop}

theorem c_get (F : Sx W Kf) (D : FnDs W 322 (hdrStmt 4) [.none]) (DG : FnD W 309 (hdrStmt 2)) (hn : n ≤ 38) {h l : Nat} {rows : List Row} {key dflt : Str} (hkz : key.length ≤ 100000) (H : HasRows σ h l rows) (hw : wf σ)
    (hs : K (.str (((findRow key rows).map (·.2)).getD dflt)) σ) :
    CallM W n (.ref 322) [.obj h, .str key, .str dflt] [] σ K KE := by
  refine call_cd (by omega) (CdP.cut ?_)
  obtain ⟨r, T, n0, D, hT⟩ := D
  refine fn_call (body := bodyOf (hdrStmt 4)) D F.lim (by omega) rfl ⟨rfl, rfl, rfl⟩ ?_
  refine bd_def (ps := ["self", "key", "default"]) rfl hT [] (fun x hx => by cases hx) (fun vs hv => ?_) rfl ?_
  · match vs, hv with
    | [a, b, c], _ => exact ⟨_, rfl, rfl⟩
  refine ⟨rfl, ?_⟩
  walk_at "mv"
  refine ex_try (xc := .key) F (by omega) rfl rfl rfl ?_
  walk_at "mv"
  refine meth_at F 309 H.inst ?_
  walk_at "mv"
  refine c_get_key F DG (by omega) hkz H hw (fun r hr => ?_) (fun hr => ?_)
  · walk_at "mv"
    rw [hr] at hs
    exact cut_all (m := .str r.2) (Nat.le_refl _) hw rfl hs
  · refine ⟨rfl, ?_⟩
    walk_at "mv"
    rw [hr] at hs
    exact cut_all (m := .str dflt) (Nat.le_refl _) hw rfl hs
end
end
section
open PySem PySem.W PyProof.Rows
section
variable {W : Wd} {Kf : Frag} {σ : Hp} {n : Nat} {K : MV → Hp → Prop} {KE : Xc → Hp → Prop}

theorem cutx_all {σ₀ σ' : Hp} {K : Xc → Hp → Prop} {x : Xc} (e : σ₀.length ≤ σ'.length) (h : wf σ') (k : K x σ') : CutX σ₀.length K x σ' :=
  ⟨σ'.length, e, by rw [List.take_length]; exact h _ (Nat.le_refl _), by rw [List.take_length]; exact k⟩

theorem c_getitem_str (F : Sx W Kf) (D : FnD W 302 (hdrStmt 1)) (DG : FnD W 309 (hdrStmt 2)) (hn : n ≤ 38) {h l : Nat} {rows : List Row} {key : Str} (hkz : key.length ≤ 100000) (H : HasRows σ h l rows) (hw : wf σ)
    (hs : ∀ r, findRow key rows = some r → K (.str r.2) σ) (he : findRow key rows = none → KE .key σ) :
    CallM W n (.ref 302) [.obj h, .str key] [] σ K KE := by
  refine call_cd (by omega) (CdP.cut ?_)
  obtain ⟨r, D⟩ := D
  refine fn_call (body := bodyOf (hdrStmt 1)) D F.lim (by omega) rfl ⟨rfl, rfl, rfl⟩ ?_
  refine bd_pos (ps := ["self", "key"]) (fun vs hv => ?_) rfl ?_
  · match vs, hv with
    | [a, b], _ => rfl
  refine ⟨rfl, ?_⟩
  walk_at "mv"
  refine ⟨_, rfl, by walk_at "mv_keep", ?_⟩
  walk_at "mv"
  refine call_isi (b := true) F rfl (by simp [isiTs]) (by simp [isiCs]) rfl ?_
  refine tst_bool ?_
  refine ⟨fun _ => ?_, fun hb => by cases hb⟩
  walk_at "mv"
  refine meth_at F 309 H.inst ?_
  walk_at "mv"
  refine c_get_key F DG (by omega) hkz H hw (fun r hr => ?_) (fun hr => ?_)
  · exact cut_all (m := .str r.2) (Nat.le_refl _) hw rfl (hs r hr)
  · exact cutx_all (Nat.le_refl _) hw (he hr)

theorem c_getitem_int (F : Sx W Kf) (D : FnD W 302 (hdrStmt 1)) (hn : n ≤ 38) {h l : Nat} {rows : List Row} {k : Int} {j : Nat} {row : Row} (H : HasRows σ h l rows) (hw : wf σ)
    (hj : (0 ≤ k ∧ j = k.toNat) ∨ (k < 0 ∧ -(rows.length : Int) ≤ k ∧ j = (k + rows.length).toNat)) (hr : rows[j]? = some row) (hs : K (rowM row) σ) :
    CallM W n (.ref 302) [.obj h, .int k] [] σ K KE := by
  refine call_cd (by omega) (CdP.cut ?_)
  obtain ⟨r, D⟩ := D
  refine fn_call (body := bodyOf (hdrStmt 1)) D F.lim (by omega) rfl ⟨rfl, rfl, rfl⟩ ?_
  refine bd_pos (ps := ["self", "key"]) (fun vs hv => ?_) rfl ?_
  · match vs, hv with
    | [a, b], _ => rfl
  refine ⟨rfl, ?_⟩
  walk_at "mv"
  refine ⟨_, rfl, by walk_at "mv_keep", ?_⟩
  walk_at "mv"
  refine call_isi (b := false) F rfl (by simp [isiTs]) (by simp [isiCs]) rfl ?_
  refine tst_bool ?_
  refine ⟨nofun, fun _ => ?_⟩
  walk_at "mv"
  refine ⟨_, rfl, by walk_at "mv_keep", ?_⟩
  walk_at "mv"
  refine call_isi (b := true) F rfl (by simp [isiTs]) (by simp [isiCs]) rfl ?_
  refine tst_bool ?_
  refine ⟨fun _ => ?_, fun hb => by cases hb⟩
  walk_at "mv"
  refine op_list_attr F.toSf H.inst ?_
  walk_at "mv"
  refine sub_list_int (as_obj H.list) (by have := H.few; rw [rowsM_len]; omega) (by rw [rowsM_len]; exact hj) (by rw [rowsM_get, hr]; rfl) ?_
  exact cut_all (Nat.le_refl _) hw (ok_row _ _) hs
end
end
section
open PySem PySem.W PyProof.Rows PySem.Builtin PySem.Builtin.Re
theorem pa_pattern : PlainAttrs "re.Pattern" := ⟨⟨"object.__getattribute__", by rw [typeLookup_type, builtinLookup_eq_fast]; kernel_rfl, by decide +kernel⟩, by rw [typeLookup_type, builtinLookup_eq_fast]; kernel_rfl⟩
theorem slot_search : Slot "re.Pattern" "search" "re.Pattern.search" :=
  .of (owner := "re.Pattern") (n := "search") (by rw [typeLookup_type, builtinLookup_eq_fast]; kernel_rfl) (by decide +kernel) (by decide +kernel) (by decide +kernel)
    (by first | exact .inl (by decide +kernel) | exact .inr (by decide +kernel)) (by rw [isSubtype_type]; kernel_rfl)
theorem type_search : typeOf (.builtin "re.Pattern.search") = pure (.type "method_descriptor") := by show builtinType _ = _; rw [builtinType_eq_fast]; kernel_rfl
theorem entry_search : entryFor table "re.Pattern.search" = some Builtin.«re.Pattern.search» := entryFor_of_tree (by kernel_rfl)
theorem args_search (a b : Value) : argsOk "re.Pattern.search" ⟨[a, b], []⟩ := by unfold argsOk; kernel_rfl

def runK : Nat → Sre.M → Option Sre.M
  | 0, _ => none
  | k + 1, m => let m := m.runFor reTurnSteps
    if m.outcome.isSome then some m else runK k m

section
variable {M : Model} {A : Around} {E : Value → Shared → Prop} {s : Shared}
theorem wp_drive {Q : Sre.M → Shared → Prop} {m' : Sre.M} (h : Q m' s) : ∀ (k turns : Nat) (m : Sre.M), k ≤ turns → runK k m = some m' → wpAny M A (reDrive turns m) Q E s
  | 0, _, _, _, e => by cases e
  | k + 1, 0, _, hk, _ => by omega
  | k + 1, t + 1, m, hk, e => by
    unfold runK at e
    unfold reDrive
    dsimp only at e ⊢
    by_cases c : (Sre.M.runFor reTurnSteps m).outcome.isSome = true
    · rw [if_pos c] at e ⊢
      cases e
      exact wpAny_pure h
    · rw [if_neg c] at e ⊢
      exact wpAny_bind (wpAny_rule (wp_drive h k t _ (by omega) e))

theorem wp_tags {Q : PUnit → Shared → Prop} {c : Nat → Bool} {f : Nat → String} (h : Q ⟨⟩ s) : ∀ l : List Nat, wpAny M A (forIn l PUnit.unit (fun i (_ : PUnit) => if c i = true then (do rule (f i); pure (ForInStep.yield PUnit.unit)) else pure (ForInStep.yield PUnit.unit)) : Sem PUnit) Q E s
  | [] => by rw [List.forIn_nil]; exact wpAny_pure h
  | x :: l => by
    rw [List.forIn_cons]
    by_cases q : c x = true
    · rw [if_pos q]
      exact wpAny_bind (wpAny_bind (wpAny_rule (wpAny_pure (wp_tags h l))))
    · rw [if_neg q]
      exact wpAny_bind (wpAny_pure (wp_tags h l))
theorem wp_end {Q : Option Sre.M → Shared → Prop} {m m' : Sre.M} {k : Nat} {b : Bool} (e : runK k m = some m') (hk : k ≤ 1000) (hb : m'.outcome = some (if b then .matched else .failed)) (h : Q (if b then some m' else none) s) : wpAny M A (reRunToEnd m) Q E s := by
  unfold reRunToEnd
  refine wpAny_bind (wp_drive ?_ k _ m (by omega) e)
  refine wpAny_bind (wp_tags ?_ _)
  rw [hb]
  cases b <;> exact wpAny_pure h
end

/-- the program's pattern -/
def reCode : List Nat := [14, 9, 4, 1, 1, 16, 13, 16, 10, 0, 13, 6, 16, 13, 16, 10, 0, 1]
def reMach (x : Str) : Sre.M := Sre.forSearch reCode.toArray x.cps 0 (min (0 : Int).toNat x.cps.size) (min (2 ^ 63 - 1 : Int).toNat x.cps.size) false
/-- has the text a line break, as the machine sees it -/
def reSays (x : Str) : Option Bool := (runK 200 (reMach x)).bind fun m => match m.outcome with
  | some .matched => some true
  | some .failed => some false
  | _ => none
end
section
open PySem PySem.W PyProof.Rows PySem.Builtin PySem.Builtin.Re
structure ReOk (W : Wd) : Prop where
  at_ : ∃ p0 p1 p3 p4 T n, W.base.get? 536 = some { cls := .type "re.Pattern", data := .fields #[p0, p1, rawInt 0, p3, p4, .ref T, rawInt 0] } ∧ W.base.get? T = some (tupObj (reCode.map fun k : Nat => rawInt (k : Int)) n)

/-- a match: an object that nobody looks into -/
def matF : FzObj := ⟨fun g v => ∃ r, v = .ref r, fun k ⟨r, e⟩ => ⟨r, e⟩⟩

section
variable {W : Wd} {Kf : Frag} {c : Cx} {g g₁ : Heap} {ρ ρ₁ : Rho} {loc loc' : Loc} {σ σ' : Hp} {s s₁ : Shared} {n : Nat} {sc scope : Scope}
variable {K : MV → Hp → Prop} {KE : Xc → Hp → Prop}

theorem named_search (v : Value) : reNamed "re.Pattern.search" "search" ["string", "pos", "endpos"] 1 [v] [] = pure [some v, none, none] := by with_unfolding_all rfl

theorem getM_search (R : ReOk W) : GetM W (.stat (.ref 536)) (Str.ofString "search") σ (.builtin "re.Pattern.search") := by with_unfolding_all exact (fun n sc c g ρ loc s v pl C G r A E Q h => by
  cases r
  obtain ⟨p0, p1, p3, p4, T, n', h1, h2⟩ := R.at_
  have h1' := G.baseIn _ _ h1
  exact getMethod_builtin (T := "re.Pattern") ⟨_, h1', rfl⟩ pa_pattern slot_search type_search (fun a e => by cases e; exact ⟨_, h1', rfl⟩) h)

theorem call_search (R : ReOk W) {x : Str} {b : Bool} (hx : reSays x = some b) (h : K (if b then .fz matF else .none) σ) : CallM W n (.builtin "re.Pattern.search") [.stat (.ref 536), .str x] [] σ K KE := by (try unfold CallM at *); exact (fun sc c g ρ loc s vs kvs C G r kr => by
  cases kr
  cases r with | cons r₁ r₂ =>
  cases r₂ with | cons r₂ r₃ =>
  cases r₃; cases r₁; cases r₂
  rename_i t
  obtain ⟨p0, p1, p3, p4, T, n', h1, h2⟩ := R.at_
  have h1' := G.baseIn _ _ h1
  have h2' := G.baseIn _ _ h2
  obtain ⟨m', hm', ho⟩ : ∃ m', runK 200 (reMach x) = some m' ∧ m'.outcome = some (if b then .matched else .failed) := by
    unfold reSays at hx
    cases q : runK 200 (reMach x) with
    | none => rw [q] at hx; cases hx
    | some m' =>
      rw [q] at hx
      refine ⟨m', rfl, ?_⟩
      simp only [Option.bind_some] at hx
      split at hx
      · rename_i e; cases hx; exact e
      · rename_i e; cases hx; exact e
      · cases hx
  refine wpAny_call_entry slot_search ⟨_, h1', rfl⟩ entry_search ?_ (args_search _ _)
  unfold Builtin.«re.Pattern.search» reTarget
  dsimp only
  rw [named_search]
  refine wpAny_bind (wpAny_bind (wpAny_pure ?_))
  refine wpAny_bind (wpAny_pure (wpAny_bind (wpAny_pure ?_)))
  refine wpAny_bind (wpAny_fieldsOf h1' rfl ?_)
  refine wpAny_bind (m := reTextOf (.str x t)) (wpAny_of_eq (a := (x.cps, 0)) (by with_unfolding_all rfl) ?_)
  rw [if_neg (show ¬ ((reRawNat (#[p0, p1, rawInt 0, p3, p4, Value.ref T, rawInt 0].getD 6 Value.none) == 0 && (x.cps, 0).snd == 1) = true) from by show ¬ (((0 : Nat) == 0 && (0 : Nat) == 1) = true); decide)]
  rw [if_neg (show ¬ ((reRawNat (#[p0, p1, rawInt 0, p3, p4, Value.ref T, rawInt 0].getD 6 Value.none) == 1 && (x.cps, 0).snd == 0) = true) from by show ¬ (((0 : Nat) == 1 && (0 : Nat) == 0) = true); decide)]
  refine wpAny_bind (m := reNoCollectionInside _ _) (wpAny_of_eq (a := ()) (by rfl) ?_)
  refine wpAny_bind (m := reRawItems _) ?_
  unfold reRawItems
  refine wpAny_bind (wpAny_seqItems h2' rfl (wpAny_pure (wpAny_pure ?_)))
  have e : Sre.forSearch (Array.map (fun x => x.toNat) (Array.map reRawOf ((some (List.map (fun k : Nat => rawInt (k : Int)) reCode).toArray).getD #[]))) x.cps 0 (min (0 : Int).toNat x.cps.size) (min (2 ^ 63 - 1 : Int).toNat x.cps.size) false = reMach x := by
    unfold reMach
    rw [show Array.map (fun x => x.toNat) (Array.map reRawOf ((some (List.map (fun k : Nat => rawInt (k : Int)) reCode).toArray).getD #[])) = reCode.toArray by decide +kernel]
  unfold reAnswer
  show wpAny _ _ (reRunToEnd (Sre.forSearch (Array.map (fun x => x.toNat) (Array.map reRawOf ((some (List.map (fun k : Nat => rawInt (k : Int)) reCode).toArray).getD #[]))) x.cps 0 (min (0 : Int).toNat x.cps.size) (min (2 ^ 63 - 1 : Int).toNat x.cps.size) false) >>= _) _ _ _
  rw [e]
  refine wpAny_bind (wp_end hm' (by omega) ho ?_)
  cases b with
  | false => exact wpAny_pure ⟨_, rfl, Post.now G .none h⟩
  | true =>
    dsimp only [if_true]
    refine wpAny_bind ?_
    unfold reNewMatch
    refine wpAny_bind (wpAny_newTuple ?_ (show 2 ≤ sizeLine by rw [sizeLine_eq]; omega))
    refine wpAny_newObj_type ?_ (by size_fits)
    refine wpAny_pure ⟨_, rfl, ?_⟩
    obtain ⟨G₁, st₁, _⟩ := G.alloc (o := { cls := .type "tuple", data := .seq _ }) rfl (t := s.toks)
    exact (Post.new (t := s.toks) G₁ rfl (fun g' le q => .fz (x := matF) ⟨_, rfl⟩) h).after st₁)
end
end
section
open PySem PySem.W PyProof.Rows
def decS (k : Int) : Str := (toString k : String)
structure Sz (W : Wd) (K : Frag) : Prop extends Sy W K where
  re : ReOk W
section
variable {W : Wd} {Kf : Frag} {c : Cx} {g g₁ : Heap} {ρ ρ₁ : Rho} {loc loc' : Loc} {σ σ' : Hp} {s s₁ : Shared} {n : Nat} {sc scope : Scope}
variable {K : MV → Hp → Prop} {KE : Xc → Hp → Prop}

theorem op_isnot_mat (h : K (.bool true) σ) : Op2 W n (compareOp .IsNot) (.fz matF) .none σ K KE := by with_unfolding_all exact (fun sc c g ρ loc s v₁ v₂ C G r₁ r₂ => by
  cases r₂
  cases r₁ with
  | fz q =>
    obtain ⟨r, rfl⟩ := q
    exact wpAny_isNot_plain rfl (Post.now G (.bool true) h))
theorem call_str_int {k : Int} (hk : k.natAbs < 1000000) (h : K (.str (decS k)) σ) : CallM W n (.type "str") [.int k] [] σ K KE := by with_unfolding_all exact (fun sc c g ρ loc s vs kvs C G r kr => by
  cases kr
  cases r with | cons r₁ r₂ =>
  cases r₂; cases r₁
  refine P.str_of_int ?_ (Post.nowT G (.str _ _) h)
  have : k.natAbs.log2 ≤ k.natAbs := Nat.log2_le_self _
  by_cases z : k.natAbs = 0
  · rw [z]; decide
  · have := (Nat.log2_lt z (k := 20)).mpr (by omega)
    omega)
end
section
variable {W : Wd} {Kf : Frag} {σ : Hp} {n : Nat} {K : MV → Hp → Prop} {KE : Xc → Hp → Prop}

theorem c_shv_str (F : Sx W Kf) (R : ReOk W) (D : FnD W 543 (topStmt 14)) (hn : n ≤ 38) {x : Str} {b : Bool} (hx : reSays x = some b) (hw : wf σ)
    (hs : b = false → K (.str x) σ) (he : b = true → KE .val σ) :
    CallM W n (.ref 543) [.str x] [] σ K KE := by
  refine call_cd (by omega) (CdP.cut ?_)
  obtain ⟨r, D⟩ := D
  refine fn_call (body := bodyOf (topStmt 14)) D F.lim (by omega) rfl ⟨rfl, rfl, rfl⟩ ?_
  refine bd_pos (ps := ["value"]) (fun vs hv => ?_) rfl ?_
  · match vs, hv with
    | [a], _ => rfl
  refine ⟨rfl, ?_⟩
  walk_at "mv"
  refine ⟨_, rfl, by walk_at "mv_keep", ?_⟩
  walk_at "mv"
  refine call_isi (b := true) F rfl (by simp [isiTs]) (by simp [isiCs]) rfl ?_
  refine tst_bool ?_
  refine ⟨nofun, fun _ => ?_⟩
  walk_at "mv"
  refine ⟨_, getM_search R, by walk_at "mv_keep", ?_⟩
  walk_at "mv"
  refine call_search R hx ?_
  cases b with
  | false =>
    walk_at "mv"
    refine op_isnot_none' ?_
    refine tst_bool ?_
    refine ⟨nofun, fun _ => ?_⟩
    walk_at "mv"
    exact cut_all (m := .str x) (Nat.le_refl _) hw rfl (hs rfl)
  | true =>
    walk_at "mv"
    refine op_isnot_mat ?_
    refine tst_bool ?_
    refine ⟨fun _ => ?_, nofun⟩
    refine exs_cons ?_
    refine ex_raise_val F (by omega) rfl rfl rfl (fun _ _ => rfl) ?_
    walk_at "mv"
    refine ⟨by simp, ?_⟩
    exact cutx_all (Nat.le_refl _) hw (he rfl)
end
end
section
open PySem PySem.W PyProof.Rows
/-- a value and its text -/
inductive ValIs : MV → Str → Prop
  | str (x) : ValIs (.str x) x
  | int (k) (hk : k.natAbs < 1000000) : ValIs (.int k) (decS k)

section
variable {W : Wd} {Kf : Frag} {σ : Hp} {n : Nat} {K : MV → Hp → Prop} {KE : Xc → Hp → Prop}

theorem c_shv (F : Sx W Kf) (R : ReOk W) (D : FnD W 543 (topStmt 14)) (hn : n ≤ 38) {m : MV} {x : Str} {b : Bool} (hv : ValIs m x) (hx : reSays x = some b) (hw : wf σ)
    (hs : b = false → K (.str x) σ) (he : b = true → KE .val σ) :
    CallM W n (.ref 543) [m] [] σ K KE := by
  cases hv with
  | str => exact c_shv_str F R D hn hx hw hs he
  | int k hk =>
    refine call_cd (by omega) (CdP.cut ?_)
    obtain ⟨r, D⟩ := D
    refine fn_call (body := bodyOf (topStmt 14)) D F.lim (by omega) rfl ⟨rfl, rfl, rfl⟩ ?_
    refine bd_pos (ps := ["value"]) (fun vs hv => ?_) rfl ?_
    · match vs, hv with
      | [a], _ => rfl
    refine ⟨rfl, ?_⟩
    walk_at "mv"
    refine ⟨_, rfl, by walk_at "mv_keep", ?_⟩
    walk_at "mv"
    refine call_isi (b := false) F rfl (by simp [isiTs]) (by simp [isiCs]) rfl ?_
    refine tst_bool ?_
    refine ⟨fun _ => ?_, nofun⟩
    walk_at "mv"
    refine ⟨_, rfl, by walk_at "mv_keep", ?_⟩
    walk_at "mv"
    refine call_str_int hk ?_
    walk_at "mv"
    refine ⟨_, getM_search R, by walk_at "mv_keep", ?_⟩
    walk_at "mv"
    refine call_search R hx ?_
    cases b with
    | false =>
      walk_at "mv"
      refine op_isnot_none' ?_
      refine tst_bool ?_
      refine ⟨nofun, fun _ => ?_⟩
      walk_at "mv"
      exact cut_all (m := .str (decS k)) (Nat.le_refl _) hw rfl (hs rfl)
    | true =>
      walk_at "mv"
      refine op_isnot_mat ?_
      refine tst_bool ?_
      refine ⟨fun _ => ?_, nofun⟩
      refine exs_cons ?_
      refine ex_raise_val F (by omega) rfl rfl rfl (fun _ _ => rfl) ?_
      walk_at "mv"
      refine ⟨by simp, ?_⟩
      exact cutx_all (Nat.le_refl _) hw (he rfl)

theorem c_add (F : Sx W Kf) (R : ReOk W) (DS : FnD W 543 (topStmt 14)) (D : FnD W 429 (hdrStmt 19)) (hn : n ≤ 36) {h l : Nat} {rows : List Row} {key x : Str} {m : MV} {b : Bool} (H : HasRows σ h l rows) (hw : wf σ) (hz : rows.length < 1000)
    (hv : ValIs m x) (hx : reSays x = some b)
    (hs : b = false → K .none (σ.set l (.list (rowsM (rows ++ [(key, x)]))))) (he : b = true → KE .val σ) :
    CallM W n (.ref 429) [.obj h, .str key, m] [] σ K KE := by
  refine call_cd (by omega) (CdP.cut ?_)
  obtain ⟨r, D⟩ := D
  refine fn_call (body := bodyOf (hdrStmt 19)) D F.lim (by omega) rfl ⟨rfl, rfl, rfl⟩ ?_
  refine bd_pos (ps := ["self", "key", "value"]) (fun vs hv => ?_) rfl ?_
  · match vs, hv with
    | [a, b, c], _ => rfl
  refine ⟨rfl, ?_⟩
  walk_at "mv"
  refine ⟨_, rfl, by walk_at "mv_keep", ?_⟩
  walk_at "mv"
  refine c_shv F R DS (by omega) hv hx hw (fun hb => ?_) (fun hb => ?_)
  · walk_at "mv"
    refine op_list_attr F.toSf H.inst ?_
    refine ⟨_, getM_append (as_obj H.list), by walk_at "mv_keep", ?_⟩
    walk_at "mv"
    refine ⟨by simp, ?_⟩
    walk_at "mv"
    refine call_append H.list (by rw [rowsM_len]; omega) ?_
    refine ⟨rfl, ?_⟩
    walk_at "mv"
    have e : rowsM rows ++ [MV.tup [.str key, .str x]] = rowsM (rows ++ [(key, x)]) := by simp [rowsM, rowM]
    rw [e]
    exact cut_all (m := .none) (by simp) (hw.rows _) rfl (hs hb)
  · exact cutx_all (Nat.le_refl _) hw (he hb)
end
end
section
open PySem PySem.W PyProof.Rows
section
variable {W : Wd} {Kf : Frag} {σ : Hp} {n : Nat} {K : MV → Hp → Prop} {KE : Xc → Hp → Prop}

theorem last2 (σ : Hp) (x y : MO) : (σ ++ [x] ++ [y])[σ.length + 1]? = some y := by simp [List.getElem?_append]
theorem set_last2 (σ : Hp) (x y z : MO) : (σ ++ [x] ++ [y]).set (σ.length + 1) z = σ ++ [x] ++ [z] := by simp [List.set_append]
theorem mid2 (σ : Hp) (x y : MO) : (σ ++ [x] ++ [y])[σ.length]? = some x := by simp [List.getElem?_append]
theorem set_mid2 (σ : Hp) (x y z : MO) : (σ ++ [x] ++ [y]).set σ.length z = σ ++ [z] ++ [y] := by simp [List.set_append]

theorem set_in2 (σ : Hp) (x y z : MO) {l : Nat} (h : l < σ.length) : (σ ++ [x] ++ [y]).set l z = σ.set l z ++ [x] ++ [y] := by
  rw [List.append_assoc, List.set_append_left l z h, List.append_assoc]

def dropKey (key : Str) (rows : List Row) : List Row := rows.filter fun r => !(low r.1 == low key)

theorem c_del_key (F : Sx W Kf) (D : FnD W 379 (hdrStmt 12)) (hn : n ≤ 36) {h l : Nat} {rows : List Row} {key : Str} (hkz : key.length ≤ 100000) (H : HasRows σ h l rows) (hw : wf σ)
    (hs : K .none (σ.set l (.list (rowsM (dropKey key rows))))) :
    CallM W n (.ref 379) [.obj h, .str key] [] σ K KE := by
  refine call_cd (by omega) (CdP.cut ?_)
  obtain ⟨r, D⟩ := D
  refine fn_call (body := bodyOf (hdrStmt 12)) D F.lim (by omega) rfl ⟨rfl, rfl, rfl⟩ ?_
  refine bd_pos (ps := ["self", "key"]) (fun vs hv => ?_) rfl ?_
  · match vs, hv with
    | [a, b], _ => rfl
  refine ⟨rfl, ?_⟩
  have hll : l < σ.length := (List.getElem?_eq_some_iff.mp H.list).1
  have hhl : h < σ.length := (List.getElem?_eq_some_iff.mp H.inst).1
  walk_at "mv"
  refine ⟨_, getM_lower, keep_builtin _, ?_⟩
  walk_at "mv"
  refine call_lower hkz ?_
  walk_at "mv"
  refine ev_list_new ?_
  walk_at "mv"
  have H1 := H.app [MO.list []]
  refine op_list_attr F.toSf H1.inst ?_
  refine iter_list (m := .obj l) (l := rowsM rows) (as_obj H1.list) ?_
  refine loop_ind (fun m loc' σ' => ∃ p, m = rows.length - p ∧ p ≤ rows.length ∧ loc' = _ ∧ σ' = σ ++ [.list (rowsM (dropKey key (rows.take p)))] ++ [.sem (listIt (.obj l) p)]) ?_ rows.length ⟨0, rfl, Nat.zero_le _, rfl, rfl⟩
  have wfs : ∀ (p q : Nat), wf (σ ++ [.list (rowsM (dropKey key (rows.take p)))] ++ [.sem (listIt (.obj l) q)]) := fun p q => (hw.app fun k _ => (show (MO.list (rowsM (dropKey key (rows.take p)))).ok k = true from ok_rows k _)).app fun k hk => by
    simp [MO.ok, listIt, objSem, MV.ok] at hk ⊢; omega
  rintro m loc' σ' ⟨p, rfl, hp, rfl, rfl⟩
  have H2 := H.app [MO.list (rowsM (dropKey key (rows.take p)))]
  have H3 := H2.app [MO.sem (listIt (.obj l) p)]
  rw [show (σ ++ [MO.list []]).length = σ.length + 1 by simp]
  refine nxt_list (by omega) (last2 _ _ _) (as_obj H3.list) (fun mv hm => ?_) (fun hm => ?_)
  · rw [rowsM_get, Option.map_eq_some_iff] at hm
    obtain ⟨r, hr, rfl⟩ := hm
    have hsr := H.short r (List.mem_of_getElem? hr)
    have hpl := (List.getElem?_eq_some_iff.mp hr).1
    rw [set_last2]
    refine as_tuple (by omega) rfl (fun _ => ⟨rfl, rfl⟩) ?_
    refine ass_cons ?_ (fun _ => rfl)
    refine as_name rfl ?_
    refine ass_cons ?_ (fun _ => rfl)
    refine as_name rfl ?_
    refine ass_nil ?_
    walk_at "mv"
    refine ⟨_, getM_lower, keep_builtin _, ?_⟩
    walk_at "mv"
    refine call_lower hsr.1 ?_
    walk_at "mv"
    refine op_ne_str ?_
    refine tst_bool ?_
    have e1 : rows.take (p + 1) = rows.take p ++ [r] := by rw [List.take_add_one, hr]; rfl
    refine ⟨fun hb => ?_, fun hb => ?_⟩
    · walk_at "mv"
      refine ⟨_, getM_append (as_obj (mid2 _ _ _)), by walk_at "mv_keep", ?_⟩
      walk_at "mv"
      refine ⟨by simp, ?_⟩
      walk_at "mv"
      refine call_append (mid2 _ _ _) ?_ ?_
      · rw [rowsM_len]
        have := List.length_filter_le (fun r : Row => !(low r.1 == low key)) (rows.take p)
        have := H.few
        unfold dropKey
        rw [List.length_take] at *
        omega
      refine ⟨rfl, ?_⟩
      walk_at "mv"
      rw [set_mid2]
      refine ⟨rows.length - (p + 1), by omega, ?_⟩
      have e2 : rowsM (dropKey key (rows.take p)) ++ [MV.tup [.str r.1, .str r.2]] = rowsM (dropKey key (rows.take (p + 1))) := by
        rw [e1]; simp [rowsM, rowM, dropKey, List.filter_append, List.filter_cons, show (!(low r.1 == low key)) = true from hb]
      rw [e2]
      exact less_full (by simp) (sub_cons rfl (sub_cons rfl (SubL.refl _))) (by simp [locOk, MV.ok]; omega) (wfs _ _) ⟨p + 1, rfl, by omega, rfl, rfl⟩
    · walk_at "mv"
      refine ⟨rows.length - (p + 1), by omega, ?_⟩
      have e2 : rowsM (dropKey key (rows.take p)) = rowsM (dropKey key (rows.take (p + 1))) := by
        rw [e1]; simp only [dropKey, List.filter_append, List.filter_cons, show (!(low r.1 == low key)) = false from hb, List.filter_nil, List.append_nil, Bool.false_eq_true, if_false]
      rw [e2]
      exact less_full (by simp) (sub_cons rfl (sub_cons rfl (SubL.refl _))) (by simp [locOk, MV.ok]; omega) (wfs _ _) ⟨p + 1, rfl, by omega, rfl, rfl⟩
  · have e3 : rows.take p = rows := by
      rw [rowsM_get, Option.map_eq_none_iff, List.getElem?_eq_none_iff] at hm
      exact List.take_of_length_le hm
    rw [set_last2, e3]
    walk_at "mv"
    refine as_sub ?_
    walk_at "mv"
    have H4 := (H.app [MO.list (rowsM (dropKey key rows))]).app [MO.dead]
    refine op_list_attr F.toSf H4.inst ?_
    refine ev_slice ?_
    refine evo_none ?_
    refine evo_none ?_
    refine ⟨none, none, rfl, rfl, ?_⟩
    refine st_slice (new := rowsM (dropKey key rows)) H4.list (as_obj (mid2 _ _ _)) ?_ (.inl ⟨rfl, rfl⟩) ?_
    · rw [rowsM_len, rowsM_len]
      have := List.length_filter_le (fun r : Row => !(low r.1 == low key)) rows
      have := H.few
      unfold dropKey
      omega
    walk_at "mv"
    rw [set_in2 _ _ _ _ hll, List.take_zero, List.nil_append, List.append_assoc]
    exact cut_at (σ₀ := σ) (m := .none) (by simp) (hw.rows _) rfl hs
end
end
section
open PySem PySem.W PyProof.Rows
section
variable {W : Wd} {Kf : Frag} {σ : Hp} {n : Nat} {K : MV → Hp → Prop} {KE : Xc → Hp → Prop}

theorem c_remove (F : Sx W Kf) (D : FnD W 386 (hdrStmt 13)) (DD : FnD W 379 (hdrStmt 12)) (hn : n ≤ 34) {h l : Nat} {rows : List Row} {key : Str} (hkz : key.length ≤ 100000) (H : HasRows σ h l rows) (hw : wf σ)
    (hs : K .none (σ.set l (.list (rowsM (dropKey key rows))))) :
    CallM W n (.ref 386) [.obj h, .str key] [] σ K KE := by
  refine call_cd (by omega) (CdP.cut ?_)
  obtain ⟨r, D⟩ := D
  refine fn_call (body := bodyOf (hdrStmt 13)) D F.lim (by omega) rfl ⟨rfl, rfl, rfl⟩ ?_
  refine bd_pos (ps := ["self", "key"]) (fun vs hv => ?_) rfl ?_
  · match vs, hv with
    | [a, b], _ => rfl
  refine ⟨rfl, ?_⟩
  walk_at "mv"
  refine meth_at F 379 H.inst ?_
  walk_at "mv"
  refine c_del_key F DD (by omega) hkz H hw ?_
  exact cut_all (m := .none) (by simp) (hw.rows _) rfl hs

theorem c_pop (F : Sx W Kf) (D : FnDs W 394 (hdrStmt 14) [.none, .ref 61]) (DG : FnD W 309 (hdrStmt 2)) (DR : FnD W 386 (hdrStmt 13)) (DD : FnD W 379 (hdrStmt 12)) (hn : n ≤ 32) {h l : Nat} {rows : List Row} {key : Str} (hkz : key.length ≤ 100000) (H : HasRows σ h l rows) (hw : wf σ)
    (hs : ∀ r, findRow key rows = some r → K (.str r.2) (σ.set l (.list (rowsM (dropKey key rows))))) (he : findRow key rows = none → KE .key σ) :
    CallM W n (.ref 394) [.obj h, .str key] [] σ K KE := by
  refine call_cd (by omega) (CdP.cut ?_)
  obtain ⟨r, T, n0, D, hT⟩ := D
  refine fn_call (body := bodyOf (hdrStmt 14)) D F.lim (by omega) rfl ⟨rfl, rfl, rfl⟩ ?_
  refine bd_def (ps := ["self", "key", "default"]) rfl hT [(.stat (.ref 61), .ref 61)] (fun x hx g ρ => by simp at hx; subst hx; exact .stat _) (fun vs hv => ?_) rfl ?_
  · match vs, hv with
    | [a, b], _ => exact ⟨_, rfl, rfl⟩
  refine ⟨rfl, ?_⟩
  walk_at "mv"
  refine op_is_none rfl ?_
  refine tst_bool ?_
  refine ⟨nofun, fun _ => ?_⟩
  walk_at "mv"
  refine ⟨_, rfl, by walk_at "mv_keep", ?_⟩
  walk_at "mv"
  refine call_isi (b := false) F rfl (by simp [isiTs]) (by simp [isiCs]) rfl ?_
  refine tst_bool ?_
  refine ⟨nofun, fun _ => ?_⟩
  walk_at "mv"
  refine ex_try_re (xc := .key) F (by omega) rfl rfl rfl ?_
  walk_at "mv"
  refine meth_at F 309 H.inst ?_
  walk_at "mv"
  refine c_get_key F DG (by omega) hkz H hw (fun r hr => ?_) (fun hr => ?_)
  · walk_at "mv"
    refine meth_at F 386 H.inst ?_
    walk_at "mv"
    refine c_remove F DR DD (by omega) hkz H hw ?_
    refine ⟨rfl, ?_⟩
    walk_at "mv"
    exact cut_all (m := .str r.2) (by simp) (hw.rows _) rfl (hs r hr)
  · refine ⟨rfl, ?_⟩
    walk_at "mv"
    refine op_isnot_self ?_
    refine tst_bool ?_
    refine ⟨rfl, ?_⟩
    exact cutx_all (Nat.le_refl _) hw (he hr)
end
end
section
open PySem PySem.W PyProof.Rows
section
variable {W : Wd} {Kf : Frag} {σ : Hp} {n : Nat} {K : MV → Hp → Prop} {KE : Xc → Hp → Prop}

theorem capL_nil {sc scope : Scope} {loc : Loc} : CapL sc scope [] loc := fun x m e => by cases e
theorem capL_cons {sc scope : Scope} {loc l : Loc} {x : Str} {m : MV} (h1 : loc.lookup x = some m) (h2 : (compNames sc scope.names).lookup x = some .cell) (h : CapL sc scope l loc) : CapL sc scope ((x, m) :: l) loc := fun y m' e => by
  rcases lookup_cons e with ⟨rfl, rfl⟩ | ⟨_, e⟩
  · exact ⟨h1, h2⟩
  · exact h y m' e
def strsM (xs : List Str) : List MV := xs.map .str
theorem strsM_ok (k : Nat) : ∀ xs : List Str, oksL k (strsM xs) = true
  | [] => rfl
  | x :: xs => by
    have := strsM_ok k xs
    simp only [strsM, List.map_cons, oksL, Bool.and_eq_true]
    exact ⟨rfl, this⟩

def getAll (key : Str) (rows : List Row) : List Str := (rows.filter fun r => low r.1 == low key).map (·.2)

theorem c_getlist (F : Sx W Kf) (D : FnD W 327 (hdrStmt 5)) (DI : FnD W 415 (hdrStmt 17)) (hn : n ≤ 34) {h l : Nat} {rows : List Row} {key : Str} (hkz : key.length ≤ 100000) (H : HasRows σ h l rows) (hw : wf σ)
    (hs : K (.lst (strsM (getAll key rows))) σ) :
    CallM W n (.ref 327) [.obj h, .str key] [] σ K KE := by
  refine call_cd (by omega) (CdP.cut ?_)
  obtain ⟨r, D⟩ := D
  refine fn_call (body := bodyOf (hdrStmt 5)) D F.lim (by omega) rfl ⟨rfl, rfl, rfl⟩ ?_
  refine bd_pos (ps := ["self", "key"]) (fun vs hv => ?_) rfl ?_
  · match vs, hv with
    | [a, b], _ => rfl
  refine ⟨rfl, ?_⟩
  walk_at "mv"
  refine ⟨_, getM_lower, keep_builtin _, ?_⟩
  walk_at "mv"
  refine call_lower hkz ?_
  walk_at "mv"
  refine ev_listcomp (loc' := [("ikey", .str (Txt.lower key))]) rfl ?_ (fun _ _ => rfl) ?_
  · exact capL_cons rfl rfl capL_nil
  walk_at "mv"
  refine iter_inst F.toSf H.inst ?_
  refine c_iter F DI (by omega) H hw ?_
  refine ⟨_, _, _, rfl, lookup_last _ _, ⟨_, lookup_last _ _⟩, iter_listIt (lookup_app (lookup_last _ _)) ⟨rfl, rfl⟩, ?_⟩
  have hll : l < σ.length := (List.getElem?_eq_some_iff.mp H.list).1
  rw [show (σ ++ [MO.sem (listIt (MV.obj l) 0)]).length = σ.length + 1 by simp]
  have wfs : ∀ (p q : Nat), wf (σ ++ [.sem (listIt (.obj l) q)] ++ [.list (strsM (getAll key (rows.take p)))]) := fun p q => (hw.app fun k hk => by
    simp [MO.ok, listIt, objSem, MV.ok]; omega).app fun k hk => (show (MO.list (strsM (getAll key (rows.take p)))).ok k = true from strsM_ok k _)
  refine comp_ind (fun m σ' => ∃ p, m = rows.length - p ∧ p ≤ rows.length ∧ σ' = σ ++ [.sem (listIt (.obj l) p)] ++ [.list (strsM (getAll key (rows.take p)))]) ?_ rows.length ⟨0, rfl, Nat.zero_le _, rfl⟩
  rintro m σ' ⟨p, rfl, hp, rfl⟩
  have H3 := (H.app [MO.sem (listIt (.obj l) p)]).app [MO.list (strsM (getAll key (rows.take p)))]
  refine nxt_list (by omega) (mid2 _ _ _) (as_obj H3.list) (fun mv hm => ?_) (fun hm => ?_)
  · rw [rowsM_get, Option.map_eq_some_iff] at hm
    obtain ⟨r, hr, rfl⟩ := hm
    have hsr := H.short r (List.mem_of_getElem? hr)
    have hpl := (List.getElem?_eq_some_iff.mp hr).1
    have e1 : rows.take (p + 1) = rows.take p ++ [r] := by rw [List.take_add_one, hr]; rfl
    rw [set_mid2]
    refine aq_tuple (by omega) rfl (fun _ => ⟨rfl, rfl⟩) ?_
    refine aqs_cons ?_ (fun _ => rfl)
    refine aq_name rfl ?_
    refine aqs_cons ?_ (fun _ => rfl)
    refine aq_name rfl ?_
    refine aqs_nil ?_
    refine ⟨sub_cons rfl (sub_cons rfl (SubL.refl _)), ?_⟩
    refine tests_one ?_
    walk_at "mv"
    refine ⟨_, getM_lower, keep_builtin _, ?_⟩
    walk_at "mv"
    refine call_lower hsr.1 ?_
    walk_at "mv"
    refine op_eq_str ?_
    refine tst_bool ?_
    refine ⟨fun hb => ?_, fun hb => ?_⟩
    · walk_at "mv"
      refine ⟨_, last2 _ _ _, ?_, rows.length - (p + 1), by omega, ?_⟩
      · have := List.length_filter_le (fun r : Row => low r.1 == low key) (rows.take p)
        have := H.few
        simp only [strsM, getAll, List.length_map]
        rw [List.length_take] at *
        omega
      rw [set_last2]
      have e2 : strsM (getAll key (rows.take p)) ++ [MV.str r.2] = strsM (getAll key (rows.take (p + 1))) := by
        rw [e1]; simp [strsM, getAll, List.filter_append, List.filter_cons, show (low r.1 == low key) = true from hb]
      rw [e2]
      exact less_full (by simp) (sub_cons rfl (sub_cons rfl (SubL.refl _))) rfl (wfs _ _) ⟨rfl, p + 1, rfl, by omega, rfl⟩
    · refine ⟨rows.length - (p + 1), by omega, ?_⟩
      have e2 : strsM (getAll key (rows.take p)) = strsM (getAll key (rows.take (p + 1))) := by
        rw [e1]; simp only [getAll, List.filter_append, List.filter_cons, show (low r.1 == low key) = false from hb, List.filter_nil, List.append_nil, Bool.false_eq_true, if_false]
      rw [e2]
      exact less_full (by simp) (sub_cons rfl (sub_cons rfl (SubL.refl _))) rfl (wfs _ _) ⟨rfl, p + 1, rfl, by omega, rfl⟩
  · have e3 : rows.take p = rows := by
      rw [rowsM_get, Option.map_eq_none_iff, List.getElem?_eq_none_iff] at hm
      exact List.take_of_length_le hm
    rw [set_mid2, e3]
    have et : ∀ a b : MO, (σ ++ [a] ++ [b]).take σ.length = σ := fun a b => by rw [List.append_assoc]; exact List.take_left
    refine ⟨_, last2 _ _ _, ?_, strsM_ok _ _, by omega, ?_⟩
    · rw [et]; exact hw _ (Nat.le_refl _)
    · rw [et]
      exact cut_all (m := .lst _) (Nat.le_refl _) hw (strsM_ok _ _) hs
end
end
section
open PySem PySem.W PyProof.Rows
section
variable {W : Wd} {σ : Hp} {n : Nat} {K : MV → Hp → Prop} {KE : Xc → Hp → Prop}
theorem sub_tup {l : List MV} {k : Nat} {i : Expr} {m : MV} (hz : l.length ≤ 100000) (hm : l[k]? = some m) (h : K m σ) : Op2 W n (fun a b => do subscripted i (← getitemInPython a) a b) (.tup l) (.int k) σ K KE := by with_unfolding_all exact (fun sc c g ρ loc s v₁ v₂ C G r₁ r₂ => by
  cases r₂
  obtain ⟨a, vs, n', rfl, ha, hvs⟩ := tup_at G r₁
  obtain ⟨x, hx, rx⟩ := hvs.get hm
  have hlen := hvs.length
  have hjl : k < l.length := (List.getElem?_eq_some_iff.mp hm).1
  have it := isTuple_of ha
  refine sub_int (T := "tuple") ⟨_, ha, rfl⟩ slot_tuple_getitem.lookup ?_
  refine getItem_tuple (j := k) (x := x) ⟨_, ha, rfl, _, rfl⟩ (by omega) (by omega) ?_ (by rw [List.getElem?_toArray]; exact hx) (Post.now G rx h)
  rw [List.size_toArray, ← hlen]
  unfold seqIndex?
  dsimp only
  rw [if_neg (by omega : ¬ ((k : Int) < 0)), if_pos (by simp; omega)]
  simp)
end
theorem ValIs.ok {m : MV} {x : Str} (h : ValIs m x) (k : Nat) : m.ok k = true := by cases h <;> rfl
section
variable {W : Wd} {Kf : Frag} {σ : Hp} {n : Nat} {K : MV → Hp → Prop} {KE : Xc → Hp → Prop}

/-- put in the key's place -/
def setRows (key x : Str) : List Row → List Row
  | [] => [(key, x)]
  | r :: rs => if low r.1 == low key then (key, x) :: dropKey key rs else r :: setRows key x rs

theorem setRows_at {key x : Str} : ∀ {rows : List Row} {p : Nat} {r : Row}, (∀ r ∈ rows.take p, (low r.1 == low key) = false) → rows[p]? = some r → (low r.1 == low key) = true → setRows key x rows = rows.take p ++ (key, x) :: dropKey key (rows.drop (p + 1))
  | [], _, _, _, h, _ => by cases h
  | y :: rows, 0, r, _, h, hb => by
    cases h
    simp [setRows, hb]
  | y :: rows, p + 1, r, hno, h, hb => by
    have h0 := hno y (by simp)
    have := setRows_at (key := key) (x := x) (rows := rows) (p := p) (r := r) (fun r' hr' => hno r' (by simp [hr'])) h hb
    simp [setRows, h0, this]
theorem setRows_no {key x : Str} : ∀ {rows : List Row}, (∀ r ∈ rows, (low r.1 == low key) = false) → setRows key x rows = rows ++ [(key, x)]
  | [], _ => rfl
  | y :: rows, hno => by
    have h0 := hno y (by simp)
    have := setRows_no (key := key) (x := x) (rows := rows) (fun r' hr' => hno r' (by simp [hr']))
    simp [setRows, h0, this]

theorem c_set (F : Sx W Kf) (R : ReOk W) (DS : FnD W 543 (topStmt 14)) (D : FnD W 448 (hdrStmt 22)) (hn : n ≤ 34) {h l : Nat} {rows : List Row} {key x : Str} {m : MV} {b : Bool} (hkz : key.length ≤ 100000) (H : HasRows σ h l rows) (hw : wf σ) (hz : rows.length < 1000)
    (hv : ValIs m x) (hx : reSays x = some b)
    (hs : b = false → K .none (σ.set l (.list (rowsM (setRows key x rows))))) (he : b = true → KE .val σ) :
    CallM W n (.ref 448) [.obj h, .str key, m] [] σ K KE := by
  refine call_cd (by omega) (CdP.cut ?_)
  obtain ⟨r, D⟩ := D
  refine fn_call (body := bodyOf (hdrStmt 22)) D F.lim (by omega) rfl ⟨rfl, rfl, rfl⟩ ?_
  refine bd_pos (ps := ["self", "key", "value"]) (fun vs hv => ?_) rfl ?_
  · match vs, hv with
    | [a, b, c], _ => rfl
  refine ⟨rfl, ?_⟩
  have hll : l < σ.length := (List.getElem?_eq_some_iff.mp H.list).1
  have hhl : h < σ.length := (List.getElem?_eq_some_iff.mp H.inst).1
  walk_at "mv"
  refine ⟨_, rfl, by walk_at "mv_keep", ?_⟩
  walk_at "mv"
  refine c_shv F R DS (by omega) hv hx hw (fun hb => ?_) (fun hb => cutx_all (Nat.le_refl _) hw (he hb))
  have hs := hs hb
  walk_at "mv"
  refine op_list_attr F.toSf H.inst ?_
  refine tst_list (as_obj H.list) (by have := H.few; rw [rowsM_len]; omega) ?_
  refine ⟨fun hb => ?_, fun hb => ?_⟩
  · walk_at "mv"
    refine op_list_attr F.toSf H.inst ?_
    refine ⟨_, getM_append (as_obj H.list), by walk_at "mv_keep", ?_⟩
    walk_at "mv"
    refine ⟨by simp, ?_⟩
    walk_at "mv"
    refine call_append H.list (by rw [rowsM_len]; omega) ?_
    refine ⟨rfl, ?_⟩
    walk_at "mv"
    have er : rows = [] := by
      cases rows with
      | nil => rfl
      | cons _ _ => simp [rowsM] at hb
    subst er
    rw [show rowsM [] ++ [MV.tup [.str key, .str x]] = rowsM [(key, x)] from rfl]
    exact cut_all (m := .none) (by simp) (hw.rows _) rfl hs
  · walk_at "mv"
    refine ⟨_, rfl, by walk_at "mv_keep", ?_⟩
    walk_at "mv"
    refine op_list_attr F.toSf H.inst ?_
    walk_at "mv"
    refine call_iter (by omega) ?_
    refine iter_list (m := .obj l) (l := rowsM rows) (as_obj H.list) ?_
    walk_at "mv"
    refine ⟨_, getM_lower, keep_builtin _, ?_⟩
    walk_at "mv"
    refine call_lower hkz ?_
    walk_at "mv"
    refine ⟨_, rfl, by walk_at "mv_keep", ?_⟩
    walk_at "mv"
    refine call_enumerate (lookup_last _ _) ?_
    rw [show (σ ++ [MO.sem (listIt (MV.obj l) 0)]).length = σ.length + 1 by simp]
    refine iter_enum (last2 _ _ _) ?_
    have wfs : ∀ (ro : List Row) (p q : Nat), wf (σ.set l (.list (rowsM ro)) ++ [.sem (listIt (.obj l) p)] ++ [.sem (enumIt σ.length q)]) := fun ro p q => ((hw.rows ro).app fun k hk => by
      simp [MO.ok, listIt, objSem, MV.ok] at hk ⊢; omega).app fun k hk => by simp [MO.ok, enumIt, objSem] at hk ⊢; omega
    have wf0 : ∀ (p q : Nat), wf (σ ++ [.sem (listIt (.obj l) p)] ++ [.sem (enumIt σ.length q)]) := fun p q => (hw.app fun k hk => by
      simp [MO.ok, listIt, objSem, MV.ok] at hk ⊢; omega).app fun k hk => by simp [MO.ok, enumIt, objSem] at hk ⊢; omega
    refine loop_ind (fun m loc' σ' => ∃ p, m = rows.length - p ∧ p ≤ rows.length ∧ loc' = _ ∧ σ' = σ ++ [.sem (listIt (.obj l) p)] ++ [.sem (enumIt σ.length p)] ∧ ∀ r ∈ rows.take p, (low r.1 == low key) = false) ?_ rows.length ⟨0, rfl, Nat.zero_le _, rfl, rfl, by simp⟩
    rintro m loc' σ' ⟨p, rfl, hp, rfl, rfl, hno⟩
    have H3 := (H.app [MO.sem (listIt (.obj l) p)]).app [MO.sem (enumIt σ.length p)]
    refine nxt_enum rfl (by omega) (by omega) (last2 _ _ _) (mid2 _ _ _) (as_obj H3.list) (fun mv hm => ?_) (fun hm => ?_)
    · rw [rowsM_get, Option.map_eq_some_iff] at hm
      obtain ⟨r, hr, rfl⟩ := hm
      have hsr := H.short r (List.mem_of_getElem? hr)
      have hpl := (List.getElem?_eq_some_iff.mp hr).1
      have e1 : rows.take (p + 1) = rows.take p ++ [r] := by rw [List.take_add_one, hr]; rfl
      rw [set_mid2, set_last2]
      refine as_tuple (by omega) rfl (fun _ => ⟨rfl, rfl⟩) ?_
      refine ass_cons ?_ (fun _ => rfl)
      refine as_name rfl ?_
      refine ass_cons ?_ (fun _ => rfl)
      refine as_tuple (by omega) rfl (fun _ => ⟨rfl, rfl⟩) ?_
      refine ass_cons ?_ (fun _ => rfl)
      refine as_name rfl ?_
      refine ass_cons ?_ (fun _ => rfl)
      refine as_name rfl ?_
      refine ass_nil ?_
      refine ass_nil ?_
      walk_at "mv"
      refine ⟨_, getM_lower, keep_builtin _, ?_⟩
      walk_at "mv"
      refine call_lower hsr.1 ?_
      walk_at "mv"
      refine op_eq_str ?_
      refine tst_bool ?_
      refine ⟨fun hb => ?_, fun hb => ?_⟩
      · walk_at "mv"
        refine ⟨by simp, ?_⟩
        refine as_sub ?_
        walk_at "mv"
        have H4 := (H.app [MO.sem (listIt (.obj l) (p + 1))]).app [MO.sem (enumIt σ.length ((p : Int) + 1))]
        refine op_list_attr F.toSf H4.inst ?_
        walk_at "mv"
        refine st_int H4.list (by omega) (by rw [rowsM_len]; omega) (by have := H.few; rw [rowsM_len]; omega) ?_
        rw [set_in2 _ _ _ _ hll, show (rowsM rows).set (p : Int).toNat (MV.tup [.str key, .str x]) = rowsM (rows.set p (key, x)) by simp [rowsM, rowM, List.map_set]]
        have hwt := hw.rows (i := l) (rows.set p (key, x))
        have hlt : (σ.set l (MO.list (rowsM (rows.set p (key, x))))).length = σ.length := List.length_set
        have hLt : (σ.set l (MO.list (rowsM (rows.set p (key, x)))))[l]? = some (MO.list (rowsM (rows.set p (key, x)))) := List.getElem?_set_self hll
        have hIt : (σ.set l (MO.list (rowsM (rows.set p (key, x)))))[h]? = some (MO.inst (some l)) := by
          rw [List.getElem?_set_ne (fun q => by have := H.inst; rw [← q, H.list] at this; cases this)]; exact H.inst
        generalize hτ : σ.set l (MO.list (rowsM (rows.set p (key, x)))) = τ at *
        rw [← hlt]
        walk_at "mv"
        refine ev_listcomp (loc' := [("ikey", .str (Txt.lower key))]) rfl ?_ (fun _ _ => rfl) ?_
        · exact capL_cons rfl rfl capL_nil
        walk_at "mv"
        refine iter_listIt (mid2 _ _ _) ?_
        refine ⟨⟨_, mid2 _ _ _⟩, iter_listIt (lookup_app (mid2 _ _ _)) ⟨rfl, rfl⟩, ?_⟩
        have hR : ∀ q, (rows.set p (key, x))[p + 1 + q]? = rows[p + 1 + q]? := fun q => List.getElem?_set_ne (by omega)
        have hRl : (rows.set p (key, x)).length = rows.length := List.length_set
        let S : Nat → Hp := fun q => τ ++ [.sem (listIt (.obj l) (p + 1 + q))] ++ [.sem (enumIt τ.length (↑p + 1))] ++ [.list (rowsM (dropKey key ((rows.drop (p + 1)).take q)))]
        have wfS : ∀ q, wf (S q) := fun q => ((hwt.app fun k hk => by
          simp [MO.ok, listIt, objSem, MV.ok] at hk ⊢; omega).app fun k hk => by simp [MO.ok, enumIt, objSem] at hk ⊢; omega).app fun k hk => (show (MO.list (rowsM (dropKey key ((rows.drop (p + 1)).take q)))).ok k = true from ok_rows k _)
        have lS : ∀ q, (S q).length = τ.length + 3 := fun q => by simp [S]
        rw [show (τ ++ [MO.sem (listIt (MV.obj l) (p + 1))] ++ [MO.sem (enumIt τ.length (↑p + 1))]).length = τ.length + 2 by simp]
        refine comp_ind (fun m σ' => ∃ q, m = rows.length - q ∧ p + 1 + q ≤ rows.length ∧ σ' = S q) ?_ rows.length ⟨0, rfl, by omega, rfl⟩
        rintro m' σ' ⟨q, rfl, hq, rfl⟩
        have hit : (S q)[τ.length]? = some (.sem (listIt (.obj l) (p + 1 + q))) := by simp [S, List.getElem?_append]
        have hls : (S q)[l]? = some (.list (rowsM (rows.set p (key, x)))) := by
          simp only [S, List.append_assoc]; exact lookup_app hLt
        refine nxt_list (by omega) hit (as_obj hls) (fun mv hm => ?_) (fun hm => ?_)
        · rw [rowsM_get, hR, Option.map_eq_some_iff] at hm
          obtain ⟨r', hr', rfl⟩ := hm
          have hsr' := H.short r' (List.mem_of_getElem? hr')
          have hql := (List.getElem?_eq_some_iff.mp hr').1
          have e1' : (rows.drop (p + 1)).take (q + 1) = (rows.drop (p + 1)).take q ++ [r'] := by rw [List.take_add_one, List.getElem?_drop, hr']; rfl
          refine aq_name rfl ?_
          refine ⟨sub_cons rfl (SubL.refl _), ?_⟩
          refine tests_one ?_
          walk_at "mv"
          refine sub_tup (k := 0) (m := .str r'.1) (by simp) rfl ?_
          refine ⟨_, getM_lower, keep_builtin _, ?_⟩
          walk_at "mv"
          refine call_lower hsr'.1 ?_
          walk_at "mv"
          refine op_ne_str ?_
          refine tst_bool ?_
          have eS : ∀ ls, ((S q).set τ.length (.sem (listIt (.obj l) (p + 1 + q + 1)))).set (τ.length + 2) (.list ls) = τ ++ [.sem (listIt (.obj l) (p + 1 + (q + 1)))] ++ [.sem (enumIt τ.length (↑p + 1))] ++ [.list ls] := fun ls => by simp [S, List.set_append, Nat.add_assoc]
          have eS0 : (S q).set τ.length (.sem (listIt (.obj l) (p + 1 + q + 1))) = τ ++ [.sem (listIt (.obj l) (p + 1 + (q + 1)))] ++ [.sem (enumIt τ.length (↑p + 1))] ++ [.list (rowsM (dropKey key ((rows.drop (p + 1)).take q)))] := by simp [S, List.set_append, Nat.add_assoc]
          refine ⟨fun hb' => ?_, fun hb' => ?_⟩
          · walk_at "mv"
            refine ⟨rowsM (dropKey key ((rows.drop (p + 1)).take q)), by simp [S, List.getElem?_append, List.set_append], ?_, rows.length - (q + 1), by omega, ?_⟩
            · have := List.length_filter_le (fun r : Row => !(low r.1 == low key)) ((rows.drop (p + 1)).take q)
              have := H.few
              rw [rowsM_len]
              unfold dropKey
              rw [List.length_take, List.length_drop] at *
              omega
            have e2 : rowsM (dropKey key ((rows.drop (p + 1)).take q)) ++ [rowM r'] = rowsM (dropKey key ((rows.drop (p + 1)).take (q + 1))) := by
              rw [e1']; simp [rowsM, dropKey, List.filter_append, List.filter_cons, show (!(low r'.1 == low key)) = true from hb']
            rw [eS, e2]
            exact less_full (by simp) (sub_cons rfl (SubL.refl _)) rfl (wfS (q + 1)) ⟨rfl, q + 1, rfl, by omega, rfl⟩
          · refine ⟨rows.length - (q + 1), by omega, ?_⟩
            have e2 : rowsM (dropKey key ((rows.drop (p + 1)).take q)) = rowsM (dropKey key ((rows.drop (p + 1)).take (q + 1))) := by
              rw [e1']; simp only [dropKey, List.filter_append, List.filter_cons, show (!(low r'.1 == low key)) = false from hb', List.filter_nil, List.append_nil, Bool.false_eq_true, if_false]
            rw [eS0, e2]
            exact less_full (by simp) (sub_cons rfl (SubL.refl _)) rfl (wfS (q + 1)) ⟨rfl, q + 1, rfl, by omega, rfl⟩
        · have hqe : (rows.drop (p + 1)).take q = rows.drop (p + 1) := by
            rw [rowsM_get, hR, Option.map_eq_none_iff, List.getElem?_eq_none_iff] at hm
            exact List.take_of_length_le (by rw [List.length_drop]; omega)
          have eD : (S q).set τ.length MO.dead = τ ++ [MO.dead] ++ [MO.sem (enumIt τ.length (↑p + 1))] ++ [MO.list (rowsM (dropKey key (rows.drop (p + 1))))] := by simp [S, List.set_append, Nat.add_assoc, hqe]
          have eT : (τ ++ [MO.dead] ++ [MO.sem (enumIt τ.length (↑p + 1))] ++ [MO.list (rowsM (dropKey key (rows.drop (p + 1))))]).take (τ.length + 2) = τ ++ [MO.dead] ++ [MO.sem (enumIt τ.length (↑p + 1))] := by
            rw [List.take_append_of_le_length (by simp), List.take_of_length_le (by simp)]
          have wfD : wf (τ ++ [MO.dead] ++ [MO.sem (enumIt τ.length (↑p + 1))]) := (hwt.app fun k hk => rfl).app fun k hk => by simp [MO.ok, enumIt, objSem] at hk ⊢; omega
          have hLD : (τ ++ [MO.dead] ++ [MO.sem (enumIt τ.length (↑p + 1))])[l]? = some (.list (rowsM (rows.set p (key, x)))) := by
            rw [List.append_assoc]; exact lookup_app hLt
          have hID : (τ ++ [MO.dead] ++ [MO.sem (enumIt τ.length (↑p + 1))])[h]? = some (.inst (some l)) := by
            rw [List.append_assoc]; exact lookup_app hIt
          rw [eD]
          refine ⟨rowsM (dropKey key (rows.drop (p + 1))), by simp [List.getElem?_append], ?_, ok_rows _ _, by simp, ?_⟩
          · rw [eT]
            exact wfD _ (by simp)
          rw [eT]
          walk_at "mv"
          refine as_sub ?_
          walk_at "mv"
          refine op_list_attr F.toSf hID ?_
          refine ev_slice ?_
          refine evo_some ?_
          walk_at "mv"
          refine op_add_int ?_
          refine evo_none ?_
          refine ⟨some ((p : Int) + 1), none, rfl, rfl, ?_⟩
          refine st_slice (new := rowsM (dropKey key (rows.drop (p + 1)))) (i := p + 1) hLD rfl ?_ (.inr ⟨rfl, by rw [rowsM_len]; omega⟩) ?_
          · rw [rowsM_len, rowsM_len]
            have := List.length_filter_le (fun r : Row => !(low r.1 == low key)) (rows.drop (p + 1))
            have := H.few
            unfold dropKey
            rw [List.length_drop] at *
            omega
          walk_at "mv"
          have eL : (rowsM (rows.set p (key, x))).take (p + 1) ++ rowsM (dropKey key (rows.drop (p + 1))) = rowsM (setRows key x rows) := by
            rw [setRows_at hno hr hb]
            have e5 : (rows.set p (key, x)).take (p + 1) = rows.take p ++ [(key, x)] := by
              rw [List.take_add_one, List.getElem?_set_self hpl, List.take_set_of_le (by omega)]; rfl
            simp only [rowsM]
            rw [← List.map_take, e5]
            simp [rowsM]
          rw [eL, set_in2 _ _ _ _ (by rw [hlt]; exact hll), List.append_assoc]
          have eW : τ.set l (.list (rowsM (setRows key x rows))) = σ.set l (.list (rowsM (setRows key x rows))) := by rw [← hτ, List.set_set]
          rw [eW]
          exact cut_at (σ₀ := τ) (m := .none) (by simp [hlt]) (hw.rows _) rfl hs
      · walk_at "mv"
        refine ⟨rows.length - (p + 1), by omega, ?_⟩
        refine less_full (by simp) (sub_cons rfl (sub_cons rfl (sub_cons rfl (SubL.refl _)))) (by simp [locOk, MV.ok, hv.ok]; omega) (wf0 (p + 1) (p + 1)) ⟨p + 1, rfl, by omega, rfl, rfl, ?_⟩
        intro r' hr'
        rw [e1, List.mem_append] at hr'
        rcases hr' with q | q
        · exact hno r' q
        · simp at q; subst q; exact hb
    · have e3 : rows.take p = rows := by
        rw [rowsM_get, Option.map_eq_none_iff, List.getElem?_eq_none_iff] at hm
        exact List.take_of_length_le hm
      rw [e3] at hno
      rw [set_mid2, set_last2]
      have H4 := (H.app [MO.dead]).app [MO.dead]
      walk_at "mv"
      refine op_list_attr F.toSf H4.inst ?_
      refine ⟨_, getM_append (as_obj H4.list), by walk_at "mv_keep", ?_⟩
      walk_at "mv"
      refine ⟨by simp, ?_⟩
      walk_at "mv"
      refine call_append H4.list (by rw [rowsM_len]; omega) ?_
      refine ⟨rfl, ?_⟩
      walk_at "mv"
      rw [set_in2 _ _ _ _ hll, List.append_assoc]
      rw [setRows_no hno] at hs
      have e : rowsM rows ++ [MV.tup [.str key, .str x]] = rowsM (rows ++ [(key, x)]) := by simp [rowsM, rowM]
      rw [e]
      exact cut_at (σ₀ := σ) (m := .none) (by simp) (hw.rows _) rfl hs
end
end
section
open PySem PySem.W PyProof.Rows
/-- the program's functions -/
structure Pr (W : Wd) (K : Frag) : Prop extends Sy W K where
  re : ReOk W
  f295 : FnDs W 295 (hdrStmt 0) [.none]
  f302 : FnD W 302 (hdrStmt 1)
  f309 : FnD W 309 (hdrStmt 2)
  f314 : FnD W 314 (hdrStmt 3)
  f322 : FnDs W 322 (hdrStmt 4) [.none]
  f327 : FnD W 327 (hdrStmt 5)
  f342 : FnDs W 342 (hdrStmt 7) [.bool false]
  f350 : FnDs W 350 (hdrStmt 8) [.bool false]
  f357 : FnD W 357 (hdrStmt 9)
  f365 : FnDs W 365 (hdrStmt 10) [.none]
  f379 : FnD W 379 (hdrStmt 12)
  f386 : FnD W 386 (hdrStmt 13)
  f394 : FnDs W 394 (hdrStmt 14) [.none, .ref 61]
  f408 : FnD W 408 (hdrStmt 16)
  f415 : FnD W 415 (hdrStmt 17)
  f422 : FnD W 422 (hdrStmt 18)
  f429 : FnD W 429 (hdrStmt 19)
  f448 : FnD W 448 (hdrStmt 22)
  f455 : FnD W 455 (hdrStmt 23)
  f462 : FnD W 462 (hdrStmt 24)
  f474 : FnD W 474 (hdrStmt 26)
  f482 : FnDs W 482 (hdrStmt 27) [.none]
  f503 : FnD W 503 (hdrStmt 30)
  f510 : FnD W 510 (hdrStmt 31)
  f517 : FnD W 517 (hdrStmt 32)
  f81 : FnD W 81 (topStmt 8)
  f543 : FnD W 543 (topStmt 14)
  f550 : FnD W 550 (topStmt 16)
  f555 : FnD W 555 (topStmt 17)
  f560 : FnD W 560 (topStmt 18)
  f567 : FnD W 567 (topStmt 19)

section
variable {W : Wd} {Kf : Frag} {σ : Hp} {n : Nat} {K : MV → Hp → Prop} {KE : Xc → Hp → Prop}

theorem Short.app {a b : List Row} (h : Short a) (h' : Short b) : Short (a ++ b) := fun r hr => by
  rcases List.mem_append.mp hr with q | q
  · exact h r q
  · exact h' r q
theorem Short.one {k x : Str} (hk : k.length ≤ 100000) (hx : x.length ≤ 100000) : Short [(k, x)] := fun r hr => by
  simp at hr; subst hr; exact ⟨hk, hx⟩
theorem setRows_mem {key x : Str} {r : Row} : ∀ {rows : List Row}, r ∈ setRows key x rows → r = (key, x) ∨ r ∈ rows
  | [], h => by simp [setRows] at h; exact .inl h
  | y :: rows, h => by
    unfold setRows at h
    split at h
    · rcases List.mem_cons.mp h with q | q
      · exact .inl q
      · exact .inr (.tail _ (List.mem_filter.mp q).1)
    · rcases List.mem_cons.mp h with q | q
      · exact .inr (q ▸ .head _)
      · rcases setRows_mem q with q | q
        · exact .inl q
        · exact .inr (.tail _ q)
theorem Short.set {key x : Str} {rows : List Row} (h : Short rows) (hk : key.length ≤ 100000) (hx : x.length ≤ 100000) : Short (setRows key x rows) := fun r hr => by
  rcases setRows_mem hr with q | q
  · subst q; exact ⟨hk, hx⟩
  · exact h r q
theorem Short.drop {key : Str} {rows : List Row} (h : Short rows) : Short (dropKey key rows) := fun r hr => h r (List.mem_filter.mp hr).1
theorem setRows_len {key x : Str} : ∀ rows : List Row, (setRows key x rows).length ≤ rows.length + 1
  | [] => by simp [setRows]
  | y :: rows => by
    have := setRows_len (key := key) (x := x) rows
    have : (dropKey key rows).length ≤ rows.length := List.length_filter_le _ _
    unfold setRows
    split <;> simp <;> omega
theorem dropKey_len (key : Str) (rows : List Row) : (dropKey key rows).length ≤ rows.length := List.length_filter_le _ _
theorem find_set {key x : Str} : ∀ {rows : List Row}, findRow key (setRows key x rows) = some (key, x)
  | [] => by simp [setRows, findRow]
  | y :: rows => by
    unfold setRows
    split
    · simp [findRow]
    · rename_i hb
      have := find_set (key := key) (x := x) (rows := rows)
      simp only [findRow, List.find?_cons] at this ⊢
      simp only [Bool.not_eq_true] at hb
      rw [hb]
      exact this

theorem HasRows.upd {h l : Nat} {rows rows' : List Row} (H : HasRows σ h l rows) (hs : Short rows') (hl : rows'.length ≤ 1000) : HasRows (σ.set l (.list (rowsM rows'))) h l rows' := by
  have hll : l < σ.length := (List.getElem?_eq_some_iff.mp H.list).1
  refine ⟨?_, List.getElem?_set_self hll, hs, hl⟩
  rw [List.getElem?_set_ne (fun q => by have := H.inst; rw [← q, H.list] at this; cases this)]; exact H.inst

theorem c_setdefault (F : Pr W Kf) (hn : n ≤ 32) {h l : Nat} {rows : List Row} {key x : Str} (hkz : key.length ≤ 100000) (hxz : x.length ≤ 100000) (H : HasRows σ h l rows) (hw : wf σ) (hz : rows.length < 999)
    (hx : reSays x = some false)
    (hs : ∀ r, findRow key rows = some r → K (.str r.2) σ) (hs' : findRow key rows = none → K (.str x) (σ.set l (.list (rowsM (setRows key x rows))))) :
    CallM W n (.ref 462) [.obj h, .str key, .str x] [] σ K KE := by
  refine call_cd (by omega) (CdP.cut ?_)
  obtain ⟨r, D⟩ := F.f462
  refine fn_call (body := bodyOf (hdrStmt 24)) D F.lim (by omega) rfl ⟨rfl, rfl, rfl⟩ ?_
  refine bd_pos (ps := ["self", "key", "default"]) (fun vs hv => ?_) rfl ?_
  · match vs, hv with
    | [a, b, c], _ => rfl
  refine ⟨rfl, ?_⟩
  have FX := F.toSx
  walk_at "mv"
  refine ex_try (xc := .key) FX (by omega) rfl rfl rfl ?_
  walk_at "mv"
  refine meth_at FX 309 H.inst ?_
  walk_at "mv"
  refine c_get_key FX F.f309 (by omega) hkz H hw (fun r hr => ?_) (fun hr => ?_)
  · walk_at "mv"
    exact cut_all (m := .str r.2) (Nat.le_refl _) hw rfl (hs r hr)
  · refine ⟨rfl, ?_⟩
    walk_at "mv"
    refine meth_at FX 448 H.inst ?_
    walk_at "mv"
    refine c_set FX F.re F.f543 F.f448 (by omega) hkz H hw (by omega) (.str x) hx (fun _ => ?_) nofun
    refine ⟨rfl, ?_⟩
    have H2 : HasRows (σ.set l (.list (rowsM (setRows key x rows)))) h l (setRows key x rows) := H.upd (H.short.set hkz hxz) (by have := setRows_len (key := key) (x := x) rows; omega)
    walk_at "mv"
    refine meth_at FX 309 H2.inst ?_
    walk_at "mv"
    refine c_get_key FX F.f309 (by omega) hkz H2 (hw.rows _) (fun r hr' => ?_) (fun hr' => ?_)
    · rw [find_set] at hr'; cases hr'
      walk_at "mv"
      exact cut_all (m := .str x) (by simp) (hw.rows _) rfl (hs' hr)
    · rw [find_set] at hr'; cases hr'
end
end
section
open PySem PySem.W PyProof.Rows
section
variable {W : Wd} {Kf : Frag} {σ : Hp} {n : Nat} {K : MV → Hp → Prop} {KE : Xc → Hp → Prop}

/-- a text that may be a header's value -/
def Plain (x : Str) : Prop := reSays x = some false ∧ x.length ≤ 100000

def addAll (key : Str) (xs : List Str) (rows : List Row) : List Row := rows ++ xs.map fun x => (key, x)

theorem c_setlist (F : Pr W Kf) (hn : n ≤ 32) {h l : Nat} {rows : List Row} {key x0 : Str} {xs : List Str} (hkz : key.length ≤ 100000) (H : HasRows σ h l rows) (hw : wf σ) (hz : rows.length + xs.length < 999)
    (h0 : Plain x0) (hx : ∀ x ∈ xs, Plain x)
    (hs : K .none (σ.set l (.list (rowsM (addAll key xs (setRows key x0 rows)))))) :
    CallM W n (.ref 455) [.obj h, .str key, .lst (strsM (x0 :: xs))] [] σ K KE := by
  refine call_cd (by omega) (CdP.cut ?_)
  obtain ⟨r, D⟩ := F.f455
  refine fn_call (body := bodyOf (hdrStmt 23)) D F.lim (by omega) rfl ⟨rfl, rfl, rfl⟩ ?_
  refine bd_pos (ps := ["self", "key", "values"]) (fun vs hv => ?_) rfl ?_
  · match vs, hv with
    | [a, b, c], _ => rfl
  refine ⟨rfl, ?_⟩
  have FX := F.toSx
  have hll : l < σ.length := (List.getElem?_eq_some_iff.mp H.list).1
  have hhl : h < σ.length := (List.getElem?_eq_some_iff.mp H.inst).1
  have eSm : (strsM (x0 :: xs)).length = xs.length + 1 := by simp [strsM]
  have eG : ∀ i : Nat, (strsM (x0 :: xs))[i]? = ((x0 :: xs)[i]?).map MV.str := fun i => by simp only [strsM, List.getElem?_map]
  walk_at "mv"
  refine tst_list (l := strsM (x0 :: xs)) rfl (by rw [eSm]; omega) ?_
  refine ⟨fun _ => ?_, nofun⟩
  walk_at "mv"
  refine ⟨_, rfl, by walk_at "mv_keep", ?_⟩
  walk_at "mv"
  refine call_iter (by omega) ?_
  refine iter_list (l := strsM (x0 :: xs)) rfl ?_
  walk_at "mv"
  refine meth_at FX 448 (lookup_app H.inst) ?_
  walk_at "mv"
  refine ⟨_, rfl, by walk_at "mv_keep", ?_⟩
  walk_at "mv"
  refine call_next_list (l := strsM (x0 :: xs)) (m := .str x0) (lookup_last _ _) rfl rfl ?_
  rw [set_last]
  have okI : ∀ (p k : Nat), (MO.sem (listIt (.lst (strsM (x0 :: xs))) p)).ok k = true := fun p k => by simp only [MO.ok, listIt, objSem, MV.ok]; exact strsM_ok _ _
  have H1 := H.app [MO.sem (listIt (.lst (strsM (x0 :: xs))) (0 + 1))]
  walk_at "mv"
  refine c_set FX F.re F.f543 F.f448 (by omega) hkz H1 (hw.app fun k _ => okI _ k) (by omega) (.str x0) h0.1 (fun _ => ?_) nofun
  refine ⟨rfl, ?_⟩
  rw [List.set_append_left l _ hll]
  have hR0 : (setRows key x0 rows).length ≤ rows.length + 1 := setRows_len rows
  have hS0 : Short (setRows key x0 rows) := H.short.set hkz h0.2
  generalize hro : setRows key x0 rows = ro at *
  walk_at "mv"
  have lS : ∀ ro' : List Row, (σ.set l (.list (rowsM ro'))).length = σ.length := fun _ => List.length_set
  have hit : ∀ (ro' : List Row) (o : MO), (σ.set l (.list (rowsM ro')) ++ [o])[σ.length]? = some o := fun ro' o => by
    have := lookup_last (σ.set l (.list (rowsM ro'))) o
    rwa [lS] at this
  refine iter_listIt (hit _ _) ?_
  refine loop_ind (fun m loc' σ' => ∃ p, m = xs.length - p ∧ p ≤ xs.length ∧ loc' = _ ∧ σ' = σ.set l (.list (rowsM (addAll key (xs.take p) ro))) ++ [.sem (listIt (.lst (strsM (x0 :: xs))) (p + 1))]) ?_ xs.length ⟨0, rfl, Nat.zero_le _, rfl, by simp [addAll]⟩
  rintro m loc' σ' ⟨p, rfl, hp, rfl, rfl⟩
  have aL : ∀ p, (addAll key (xs.take p) ro).length ≤ 1000 := fun p => by simp [addAll]; omega
  have aS : ∀ p, Short (addAll key (xs.take p) ro) := fun p => hS0.app fun r hr => by
    rw [List.mem_map] at hr
    obtain ⟨x, hx', rfl⟩ := hr
    exact ⟨hkz, (hx x (List.mem_of_mem_take hx')).2⟩
  have H2 : HasRows (σ.set l (.list (rowsM (addAll key (xs.take p) ro))) ++ [.sem (listIt (.lst (strsM (x0 :: xs))) (p + 1 + 1))]) h l (addAll key (xs.take p) ro) := (H.upd (aS p) (aL p)).app _
  have sI : ∀ ro' a b, (σ.set l (.list (rowsM ro')) ++ [a]).set σ.length b = σ.set l (.list (rowsM ro')) ++ [b] := fun ro' a b => by
    have := set_last (σ.set l (.list (rowsM ro'))) a b
    rwa [lS] at this
  refine nxt_list (l := strsM (x0 :: xs)) (by omega) (hit _ _) rfl (fun mv hm => ?_) (fun hm => ?_)
  · rw [sI]
    rw [eG, Option.map_eq_some_iff] at hm
    obtain ⟨x, hx', rfl⟩ := hm
    rw [List.getElem?_cons_succ] at hx'
    have hpl := (List.getElem?_eq_some_iff.mp hx').1
    have hxP := hx x (List.mem_of_getElem? hx')
    refine as_name rfl ?_
    walk_at "mv"
    refine meth_at FX 429 H2.inst ?_
    walk_at "mv"
    refine c_add FX F.re F.f543 F.f429 (by omega) H2 ((hw.rows _).app fun k _ => okI _ k) (by simp [addAll]; omega) (.str x) hxP.1 (fun _ => ?_) nofun
    refine ⟨rfl, ?_⟩
    walk_at "mv"
    refine ⟨xs.length - (p + 1), by omega, ?_⟩
    rw [List.set_append_left l _ (by rw [lS]; exact hll), List.set_set]
    have e1 : addAll key (xs.take p) ro ++ [(key, x)] = addAll key (xs.take (p + 1)) ro := by
      rw [List.take_add_one, hx']; simp [addAll]
    rw [e1]
    exact less_full (by simp) (sub_cons rfl (SubL.refl _)) (by simp [locOk, MV.ok, strsM_ok]; omega) ((hw.rows _).app fun k _ => okI _ k) ⟨p + 1, rfl, by omega, rfl, rfl⟩
  · rw [sI]
    have e3 : xs.take p = xs := by
      rw [eG, Option.map_eq_none_iff, List.getElem?_cons_succ, List.getElem?_eq_none_iff] at hm
      exact List.take_of_length_le hm
    rw [e3]
    walk_at "mv"
    exact cut_at (σ₀ := σ) (m := .none) (by simp) (hw.rows _) rfl hs

theorem c_setitem_str (F : Pr W Kf) (hn : n ≤ 32) {h l : Nat} {rows : List Row} {key x : Str} {b : Bool} (hkz : key.length ≤ 100000) (H : HasRows σ h l rows) (hw : wf σ) (hz : rows.length < 1000)
    (hx : reSays x = some b)
    (hs : b = false → K .none (σ.set l (.list (rowsM (setRows key x rows))))) (he : b = true → KE .val σ) :
    CallM W n (.ref 474) [.obj h, .str key, .str x] [] σ K KE := by
  refine call_cd (by omega) (CdP.cut ?_)
  obtain ⟨r, D⟩ := F.f474
  refine fn_call (body := bodyOf (hdrStmt 26)) D F.lim (by omega) rfl ⟨rfl, rfl, rfl⟩ ?_
  refine bd_pos (ps := ["self", "key", "value"]) (fun vs hv => ?_) rfl ?_
  · match vs, hv with
    | [a, b, c], _ => rfl
  refine ⟨rfl, ?_⟩
  have FX := F.toSx
  walk_at "mv"
  refine ⟨_, rfl, by walk_at "mv_keep", ?_⟩
  walk_at "mv"
  refine call_isi (b := true) FX rfl (by simp [isiTs]) (by simp [isiCs]) rfl ?_
  refine tst_bool ?_
  refine ⟨fun _ => ?_, nofun⟩
  walk_at "mv"
  refine meth_at FX 448 H.inst ?_
  walk_at "mv"
  refine c_set FX F.re F.f543 F.f448 (by omega) hkz H hw hz (.str x) hx (fun hb => ?_) (fun hb => cutx_all (Nat.le_refl _) hw (he hb))
  refine ⟨rfl, ?_⟩
  walk_at "mv"
  exact cut_all (m := .none) (by simp) (hw.rows _) rfl (hs hb)

theorem c_setitem_int (F : Pr W Kf) (hn : n ≤ 32) {h l : Nat} {rows : List Row} {k : Int} {key x : Str} {b : Bool} (hkz : key.length ≤ 100000) (H : HasRows σ h l rows) (hw : wf σ) (h0 : 0 ≤ k) (hk : k < rows.length)
    (hx : reSays x = some b)
    (hs : b = false → K .none (σ.set l (.list (rowsM (rows.set k.toNat (key, x)))))) (he : b = true → KE .val σ) :
    CallM W n (.ref 474) [.obj h, .int k, .tup [.str key, .str x]] [] σ K KE := by
  refine call_cd (by omega) (CdP.cut ?_)
  obtain ⟨r, D⟩ := F.f474
  refine fn_call (body := bodyOf (hdrStmt 26)) D F.lim (by omega) rfl ⟨rfl, rfl, rfl⟩ ?_
  refine bd_pos (ps := ["self", "key", "value"]) (fun vs hv => ?_) rfl ?_
  · match vs, hv with
    | [a, b, c], _ => rfl
  refine ⟨rfl, ?_⟩
  have FX := F.toSx
  walk_at "mv"
  refine ⟨_, rfl, by walk_at "mv_keep", ?_⟩
  walk_at "mv"
  refine call_isi (b := false) FX rfl (by simp [isiTs]) (by simp [isiCs]) rfl ?_
  refine tst_bool ?_
  refine ⟨nofun, fun _ => ?_⟩
  walk_at "mv"
  refine ⟨_, rfl, by walk_at "mv_keep", ?_⟩
  walk_at "mv"
  refine call_isi (b := true) FX rfl (by simp [isiTs]) (by simp [isiCs]) rfl ?_
  refine tst_bool ?_
  refine ⟨fun _ => ?_, nofun⟩
  walk_at "mv"
  refine sub_tup (k := 0) (m := .str key) (by simp) rfl ?_
  walk_at "mv"
  refine ⟨_, rfl, by walk_at "mv_keep", ?_⟩
  walk_at "mv"
  refine sub_tup (k := 1) (m := .str x) (by simp) rfl ?_
  walk_at "mv"
  refine c_shv FX F.re F.f543 (by omega) (.str x) hx hw (fun hb => ?_) (fun hb => cutx_all (Nat.le_refl _) hw (he hb))
  walk_at "mv"
  refine ⟨by simp, ?_⟩
  refine as_sub ?_
  walk_at "mv"
  refine op_list_attr FX.toSf H.inst ?_
  walk_at "mv"
  refine st_int H.list h0 (by rw [rowsM_len]; exact hk) (by have := H.few; rw [rowsM_len]; omega) ?_
  rw [show (rowsM rows).set k.toNat (MV.tup [.str key, .str x]) = rowsM (rows.set k.toNat (key, x)) by simp [rowsM, rowM, List.map_set]]
  walk_at "mv"
  exact cut_all (m := .none) (by simp) (hw.rows _) rfl (hs hb)
end
end
section
open PySem PySem.W PyProof.Rows
section
variable {W : Wd} {Kf : Frag} {c : Cx} {g g₁ : Heap} {ρ ρ₁ : Rho} {loc loc' : Loc} {L : GSt → Loc} {σ σ' : Hp} {s s₁ : Shared} {n : Nat} {sc scope gsc : Scope}
variable {K : MV → Hp → Prop} {KE : Xc → Hp → Prop}

/-- the type of a handle's thing, where it is no list and no tuple -/
@[irreducible] def TyP (W : Wd) (m : MV) (σ : Hp) : Prop := ∀ c g ρ loc s v, Good W c g ρ loc σ s → VRel g ρ m v → ∃ t : Value, (t == .type "list") = false ∧ (t == .type "tuple") = false ∧ ∀ (A : Around) E Q, Q t s → wpAny (Mo W) A (typeOf v) Q E s
/-- how long it may be -/
@[irreducible] def HintP (W : Wd) (n : Nat) (m : MV) (σ : Hp) (K : Hp → Prop) : Prop := ∀ sc c g ρ loc s v E, COk W n sc c → Good W c g ρ loc σ s → VRel g ρ m v → wpAny (Mo W) c.A (Builtin.List.listLengthHint v) (PostA W c g ρ loc s (fun (_ : Bool) σ' => K σ')) E s
/-- the rest of an iterator goes behind a list -/
@[irreducible] def ExtP (W : Wd) (n : Nat) (k d : Nat) (σ : Hp) (K : Hp → Prop) : Prop := ∀ sc c g ρ loc s v va, COk W n sc c → Good W c g ρ loc σ s → VRel g ρ (.obj k) v → VRel g ρ (.obj d) va →
  codeAny (Mo W) c.A (.builtin "list.extend.loop" ⟨[va, v, .none], []⟩) (fun r s' => r = .ok (.ret .none) ∧ PostA W c g ρ loc s (fun (_ : Unit) σ' => K σ') () s') s

theorem set_same {σ : Hp} {i : Nat} {x : MO} (h : σ[i]? = some x) : σ.set i x = σ := by
  obtain ⟨hl, e⟩ := List.getElem?_eq_some_iff.mp h
  rw [← e, List.set_getElem_self]
theorem PostA.after' {α : Type} {K : α → Hp → Prop} (x : Step c g ρ s g₁ ρ₁ s₁) {v : α} {s' : Shared} (h : PostA W c g₁ ρ₁ loc s₁ K v s') : PostA W c g ρ loc s K v s' := h.after x

theorem push_ok {d : Nat} {items : List MV} {m : MV} {a va : Value} {E : Value → Shared → Prop} {Q : Unit → Shared → Prop} {A : Around} (G : Good W c g ρ loc σ s) (hd : σ[d]? = some (.list items)) (hz : items.length ≤ 1000) (ra : VRel g ρ (.obj d) a) (r : VRel g ρ m va)
    (h : ∀ s', Good W c g ρ loc (σ.set d (.list (items ++ [m]))) s' → Step c g ρ s g ρ s' → Q () s') : wpAny (Mo W) A (Builtin.List.listUpdate a (·.push va)) Q E s := by
  cases ra with
  | obj hp =>
  rename_i p
  cases G.objs _ _ _ hp hd with
  | list hx hvs =>
  rename_i a vs n
  have lv := hvs.length
  show wpAny _ _ (updateSeq a (·.push va)) _ _ _
  have hx' : s.heap.get? a = some { cls := .type "list", data := .seq vs.toArray n } := hx
  refine wpAny_updateSeq hx' rfl ?_ (by simp [sizeLine_eq]; omega) (by simp [sizeLine_eq]; omega)
  have e := Heap.get?_update_self (Obj.mapSeq (·.push va)) hx' rfl
  obtain ⟨G', st'⟩ := G.updM (o' := .list (items ++ [m])) (t := s.toks) hp hd (Heap.SameBut.update s.heap a (Obj.mapSeq (·.push va))) (.inl rfl) (ORel.list (vs := vs ++ [va]) (n := n + 1) (by rw [e]; simp [Obj.mapSeq, lstObj]) (hvs.append (VRels.one r))) (nogen_of e rfl)
  exact h _ G' st'

theorem ext_ind {k d : Nat} {K : Hp → Prop} (hn : n ≤ 50) (I : Nat → Hp → Prop)
    (turn : ∀ m σ, I m σ → NxtP W (n + 1) (.Name default default) k σ (fun mv σ₁ => ∃ items, σ₁[d]? = some (.list items) ∧ items.length ≤ 1000 ∧ ∃ m', m' < m ∧ I m' (σ₁.set d (.list (items ++ [mv])))) K)
    (m : Nat) (h : I m σ') : ExtP W n k d σ' K := by with_unfolding_all exact (fun sc c g ρ loc s v va C G r ra => by
  suffices H : ∀ (m : Nat) (σ₁ : Hp) g₁ ρ₁ s₁, I m σ₁ → Step c g ρ s g₁ ρ₁ s₁ → Good W c g₁ ρ₁ loc σ₁ s₁ → VRel g₁ ρ₁ (.obj k) v → VRel g₁ ρ₁ (.obj d) va →
      codeAny (Mo W) c.A (.builtin "list.extend.loop" ⟨[va, v, .none], []⟩) (fun r s' => r = .ok (.ret .none) ∧ PostA W c g ρ loc s (fun (_ : Unit) σ' => K σ') () s') s₁ from H m σ' g ρ s h .refl G r ra
  intro m
  induction m using Nat.strongRecOn with
  | ind m ih =>
  intro σ₁ g₁ ρ₁ s₁ hI st₁ G₁ r₁ ra₁
  refine codeAny_builtin F.entry_extend_loop ?_
  rw [Around.under_plainId F.plain_extend_loop _]
  show wpAny _ c.A.in1 (pyNext v >>= _) _ _ s₁
  refine wpAny_bind (wpAny_mono (turn m σ₁ hI sc (c.at c.A.in1) g₁ ρ₁ loc s₁ v _ (C.in1 hn) (G₁.at _) r₁) (fun x s₂ q => ?_) fun _ _ x => x)
  cases x with
  | none =>
    obtain ⟨σ₂, g₂, ρ₂, hK, st₂, G₂⟩ := q
    exact wpAny_pure ⟨rfl, σ₂, g₂, ρ₂, hK, st₁.trans st₂.un, G₂.un⟩
  | some x =>
    refine fun Γ p hΓ => ?_
    have q' : Post W (c.at c.A.in1) g₁ ρ₁ loc s₁ _ x s₂ := q Γ p hΓ
    obtain ⟨mv, σ₂, g₂, ρ₂, ⟨items, hd, hz, m', hm', hI'⟩, st₂, G₂, r₂⟩ := q'
    refine (?_ : wpAny _ _ (Builtin.List.listUpdate va (·.push x) >>= _) _ _ _) Γ p hΓ
    have st12 := st₁.trans st₂.un
    refine wpAny_bind (push_ok G₂.un hd hz (ra₁.mono st₂.ge st₂.re) r₂ fun s₃ G₃ st₃ => ?_)
    exact wpAny_pure ⟨plainId_quiet F.plain_extend_loop _, ih m' hm' _ g₂ ρ₂ s₃ hI' (st12.trans st₃) G₃ (r₁.mono st₂.ge st₂.re) (ra₁.mono st₂.ge st₂.re)⟩)

theorem ty_inst (F : Sf W Kf) {k l : Nat} (hm : σ[k]? = some (.inst (some l))) : TyP W (.obj k) σ := by with_unfolding_all exact (fun c g ρ loc s v G r => by
  have S := spAt F G hm r (x := "__iter__") (f := 415) (by decide)
  obtain ⟨⟨a, od, rfl, d, I⟩, X, hs, hf⟩ := S
  exact ⟨.ref hdrCls, rfl, rfl, fun A E Q h => (I.type.here h)⟩)
theorem ty_gen {B k m : Nat} {st : GSt} {FG : GFun} (hk : σ[k]? = some (.sem (genS W B gsc L FG m st))) : TyP W (.obj k) σ := by with_unfolding_all exact (fun c g ρ loc s v G r => by
  obtain ⟨p, hp, rfl, hrel⟩ := sem_at G hk r
  obtain ⟨id, gst, env, own, hG, _⟩ := hrel
  obtain ⟨o, _, _, ho, hc, _⟩ := hG
  exact ⟨.type "generator", rfl, rfl, fun A E Q h => wpAny_typeOf (T := "generator") ⟨o, ho, hc⟩ h⟩)

theorem hint_inst (F : Sf W Kf) {k l : Nat} {K : Hp → Prop} (hm : σ[k]? = some (.inst (some l))) (h : CallM W n (.builtin "len") [.obj k] [] σ (fun m σ' => ∃ i : Nat, i < 100000 ∧ m = .int i ∧ K σ') NE) : HintP W n (.obj k) σ K := by with_unfolding_all exact (fun sc c g ρ loc s v E C G r => by
  have S := spAt F G hm r (x := "__len__") (f := 422) (by decide)
  obtain ⟨⟨a, od, rfl, d, I⟩, X, hs, hf⟩ := S
  unfold Builtin.List.listLengthHint
  refine wpAny_bind (wpAny_bind (I.type.here ((looks_findIn X hs).here ?_)))
  show wpAny _ _ (rule "list.length-hint.len" >>= _) _ _ _
  refine wpAny_bind (wpAny_rule ?_)
  refine wpAny_bind (wpAny_attempt (wpAny_mono (h sc c g ρ loc s [.ref a] [] C G (.cons r .nil) .nil) (fun v s' q => ?_) fun _ _ q => q.none.elim))
  obtain ⟨m, σ', g', ρ', ⟨i, hi, rfl, hK⟩, st, G', rv⟩ := q
  cases rv
  refine wpAny_bind (m := asInt? _) (wpAny_pure ?_)
  have htl : Builtin.List.listTooLong ((i : Int).toNat) = false := by simp [Builtin.List.listTooLong, sizeLine_eq]; omega
  exact wpAny_ite_split (fun hab => absurd hab (by rw [htl]; decide)) (fun _ => wpAny_pure ⟨σ', g', ρ', hK, st, G'⟩))
theorem hint_gen {B k m : Nat} {st : GSt} {FG : GFun} {K : Hp → Prop} (hk : σ[k]? = some (.sem (genS W B gsc L FG m st))) (h : K σ) : HintP W n (.obj k) σ K := by with_unfolding_all exact (fun sc c g ρ loc s v E C G r => by
  obtain ⟨p, hp, rfl, hrel⟩ := sem_at G hk r
  obtain ⟨id, gst, env, own, hG, _⟩ := hrel
  obtain ⟨o, _, _, ho, hc, _⟩ := hG
  unfold Builtin.List.listLengthHint
  refine wpAny_bind (wpAny_specialOf (T := "generator") ⟨o, ho, hc⟩ F.gen_no_len ?_)
  show wpAny _ _ (specialOf (Value.ref p.1) (Str.ofString "__length_hint__") >>= _) _ _ _
  refine wpAny_bind (wpAny_specialOf (T := "generator") ⟨o, ho, hc⟩ F.gen_no_hint ?_)
  exact wpAny_pure ⟨σ, g, ρ, h, .refl, G⟩)

theorem call_list_of {k : Nat} {o : MO} (hn : n ≤ 45) (hk : σ[k]? = some o) (hty : TyP W (.obj k) (σ ++ [.list []]))
    (h : IterP W (n + 2) (.obj k) (σ ++ [.list []]) (fun it σ₂ => HintP W (n + 2) (.obj k) σ₂ (fun σ₃ => σ₃[σ.length]? = some (.list []) ∧ ExtP W (n + 1) it σ.length σ₃ (fun σ₄ => ∃ items, σ₄[σ.length]? = some (.list items) ∧
      (σ₄.take σ.length).all (·.ok σ.length) = true ∧ oksL σ.length items = true ∧ K (.lst items) (σ₄.take σ.length))))) :
    CallM W n (.type "list") [.obj k] [] σ K KE := by with_unfolding_all exact (fun sc c g ρ loc s vs kvs C G r kr => by
  cases kr
  cases r with | cons r₁ r₂ =>
  cases r₂
  rename_i v
  have fr : s.heap.get? s.heap.objs.size = none := Heap.get?_none_of_le (Nat.le_refl _)
  obtain ⟨G₁, st₁⟩ := G.allocM (o := { cls := .type "list", data := .seq #[] }) (mo := .list []) rfl (t := s.toks) (fun h' e _ => ORel.list (vs := []) e .nil) rfl
  have hS : (s.heap.push { cls := .type "list", data := .seq #[] }).get? s.heap.objs.size = some { cls := .type "list", data := .seq #[] } := Heap.get?_push_size _ rfl
  refine callType_codes (Q₁ := fun obj s₁ => obj = .ref s.heap.objs.size ∧ s₁ = { s with heap := s.heap.push { cls := .type "list", data := .seq #[] } }) F.called_list (F.typeCall_list_1 _) F.entry_list_init
    (code_list_new _ ⟨rfl, rfl⟩) fun obj s₁ h₁ => ?_
  obtain ⟨rfl, rfl⟩ := h₁
  refine ⟨⟨_, hS, rfl⟩, F.args_list_init_2 _ _, ?_⟩
  have hd1 : (ρ ++ [(s.heap.objs.size, s.heap.objs.size)])[σ.length]? = some (s.heap.objs.size, s.heap.objs.size) := by rw [G.len]; simp
  have rv1 := r₁.mono st₁.ge st₁.re
  generalize hs1 : ({ s with heap := s.heap.push { cls := .type "list", data := .seq #[] }, toks := s.toks } : Shared) = s₁ at G₁ st₁
  have hS' : s₁.heap.get? s.heap.objs.size = some { cls := .type "list", data := .seq #[] } := by rw [← hs1]; exact hS
  show wpAny _ _ (do let old ← Builtin.List.listItems (.ref s.heap.objs.size); Builtin.List.listUpdate (.ref s.heap.objs.size) (fun _ => #[]); letGo old.toList.reverse; Builtin.List.listExtendWith (.ref s.heap.objs.size) v .none) _ _ _
  refine wpAny_bind ?_
  unfold Builtin.List.listItems
  refine wpAny_bind (wpAny_seqItems hS' rfl (wpAny_pure ?_))
  show wpAny _ _ (updateSeq s.heap.objs.size (fun _ => #[]) >>= fun _ => letGo (#[] : Array Value).toList.reverse >>= fun _ => Builtin.List.listExtendWith (.ref s.heap.objs.size) v .none) _ _ _
  refine wpAny_bind (wpAny_updateSeq hS' rfl ?_)
  have hS₂ := Heap.get?_update_self (Obj.mapSeq (fun _ => (#[] : Array Value))) hS' rfl
  have upd : ∀ {s₂ : Shared} {g₂ : Heap} {ρ₂ : Rho} {σ₂ : Hp} (f : Array Value → Array Value) {vs : List Value} {ms : List MV} {n' : Nat} {o₂ : MO}, Good W c g₂ ρ₂ loc σ₂ s₂ → σ₂[σ.length]? = some o₂ → ρ₂[σ.length]? = some (s.heap.objs.size, s.heap.objs.size) → (s₂.heap.update s.heap.objs.size (Obj.mapSeq f)).get? s.heap.objs.size = some (lstObj vs n') → VRels g₂ ρ₂ ms vs →
      Good W c g₂ ρ₂ loc (σ₂.set σ.length (.list ms)) { s₂ with heap := s₂.heap.update s.heap.objs.size (Obj.mapSeq f), toks := s₂.toks } ∧ Step c g₂ ρ₂ s₂ g₂ ρ₂ { s₂ with heap := s₂.heap.update s.heap.objs.size (Obj.mapSeq f), toks := s₂.toks } := fun f vs ms n' o₂ G₂ ho₂ hp₂ e rs =>
    G₂.updM (o' := .list ms) hp₂ ho₂ (Heap.SameBut.update _ _ _) (.inl rfl) (ORel.list e rs) (nogen_of e rfl)
  obtain ⟨G₂, st₂⟩ := upd (fun _ => #[]) (vs := []) (ms := []) G₁ (lookup_last _ _) hd1 hS₂ .nil
  rw [set_last] at G₂
  refine wpAny_bind (wpAny_letGo ?_)
  have st12 := st₁.trans st₂
  generalize ({ s₁ with heap := s₁.heap.update s.heap.objs.size (Obj.mapSeq (fun _ => #[])), toks := s₁.toks } : Shared) = s₂ at *
  unfold Builtin.List.listExtendWith
  obtain ⟨t, ht1, ht2, hT⟩ := hty _ _ _ _ _ _ G₂ rv1
  refine wpAny_bind (hT _ _ _ ?_)
  have hne : Builtin.List.listSameRef (.ref s.heap.objs.size) v = false := by
    cases r₁ with
    | obj hp =>
      rename_i p
      obtain ⟨o', ho'⟩ := (G.rho (List.mem_of_getElem? hp)).1
      show (s.heap.objs.size == p.1) = false
      exact beq_false_of_ne fun q => by rw [← q, fr] at ho'; cases ho'
  simp only [hne, ht1, ht2, Bool.or_false, Bool.false_eq_true, if_false]
  have C1 := C.in1 (by omega)
  have C2 : COk W (n + 2) sc (c.at c.A.in1.in1) := C1.in1 (by omega)
  refine wpAny_bind (wpAny_mono (h sc (c.at c.A.in1.in1) _ _ loc s₂ v _ C2 (G₂.at _) rv1) (fun it s₃ q => ?_) fun _ _ x => x)
  obtain ⟨m', σ₃, g₃, ρ₃, ⟨it', rfl, hH⟩, st₃, G₃, rit⟩ := q
  refine wpAny_bind (wpAny_holding (wpAny_mono (hH sc (c.at c.A.in1.in1) g₃ ρ₃ loc s₃ v _ C2 G₃ (rv1.mono st₃.ge st₃.re)) (fun room s₄ q => ?_) fun _ _ x => x))
  obtain ⟨σ₄, g₄, ρ₄, ⟨hl4, hX⟩, st₄, G₄⟩ := q
  have st34 := (st₃.un.trans st₄.un)
  have st14 := st12.trans st34
  have G₄ := G₄.un
  have rd4 : VRel g₄ ρ₄ (.obj σ.length) (.ref s.heap.objs.size) := (VRel.obj hd1).mono st34.ge st34.re
  obtain ⟨p4, hp4, ep4⟩ := rd4.obj_inv
  have z4 := G₄.objs _ _ _ hp4 hl4
  obtain ⟨n4, e4, hp4'⟩ : ∃ n', s₄.heap.get? s.heap.objs.size = some (lstObj [] n') ∧ ρ₄[σ.length]? = some (s.heap.objs.size, s.heap.objs.size) := by
    cases z4 with
    | list e hv =>
      cases hv
      have ep4 : _ = s.heap.objs.size := ep4
      subst ep4
      exact ⟨_, e, hp4⟩
  have key : ∀ s₅, Good W c g₄ ρ₄ loc σ₄ s₅ → Step c g ρ s g₄ ρ₄ s₅ → codeAny (Mo W) c.A.in1 (.builtin "list.extend.loop" ⟨[.ref s.heap.objs.size, it, .none], []⟩)
      (wants (fun r s₂ => r = Value.none ∧ Post W c g ρ loc s K (.ref s.heap.objs.size) s₂) (XPost W c g ρ loc s KE)) s₅ := by
    intro s₅ G₅ st5
    refine codeAny_mono (hX sc (c.at c.A.in1) g₄ ρ₄ loc s₅ it _ C1 (G₅.at _) (rit.mono st₄.ge st₄.re) rd4) fun r s₆ hr => ?_
    obtain ⟨rfl, σ₆, g₆, ρ₆, ⟨items, hit, hok1, hok2, hK⟩, st₆, G₆⟩ := hr
    have G₆ := G₆.un
    have st16 := st5.trans st₆.un
    have rd6 : VRel g₆ ρ₆ (.obj σ.length) (.ref s.heap.objs.size) := rd4.mono st₆.ge st₆.re
    obtain ⟨⟨a, a2⟩, hpd, epd⟩ := rd6.obj_inv
    have epd : a = s.heap.objs.size := epd
    subst epd
    have zz := G₆.objs _ _ _ hpd hit
    obtain ⟨vs, n', ea, hvs⟩ : ∃ vs n', s₆.heap.get? s.heap.objs.size = some (lstObj vs n') ∧ VRels g₆ ρ₆ items vs := by
      cases zz with
      | list e hv => exact ⟨_, _, e, hv⟩
    have hk2 : ρ.length ≤ σ.length := by rw [G.len]; omega
    have G₇ := G₆.take (k := σ.length) (fun x mv e => G.locOk hk2 x mv e) hok1
    have st₇ := st16.take (k := σ.length) hk2
    have nin : ∀ p ∈ ρ₆.take σ.length, p.1 ≠ s.heap.objs.size ∧ p.2 ≠ s.heap.objs.size := fun p hp => by
      obtain ⟨j, hj, ej⟩ := List.mem_iff_getElem.mp hp
      have hj' : j < σ.length := by rw [List.length_take] at hj; omega
      have ej' : ρ₆[j]? = some p := by rw [← ej, List.getElem_take, List.getElem?_eq_getElem]
      have := G₆.apart ej' hpd (by omega)
      exact ⟨this.1, this.2.2.1⟩
    have Pa : Priv c g₆ (ρ₆.take σ.length) s.heap.objs.size := by
      have hm := List.mem_of_getElem? hpd
      have P2 := G.fresh fr
      exact ⟨(G₆.gρ _ hm).1, nin, P2.l, P2.cl, P2.k⟩
    obtain ⟨G₈, st₈, e₈, le₈⟩ := G₇.freeze st₇ (fun b o e P q => by rw [q, fr] at e; cases e) Pa ea
    exact ⟨rfl, .lst items, σ₆.take σ.length, _, _, hK, st₈, G₈, .lst e₈ ((hvs.take hok2).mono le₈ (RLe.refl _))⟩
  refine wpAny_ite_split (fun _ => ?_) (fun _ => wpAny_pure ⟨plainId_quiet F.plain_extend_loop _, key s₄ G₄ (st14)⟩)
  refine wpAny_bind (wpAny_rule ?_)
  refine wpAny_bind ?_
  show wpAny _ _ (updateSeq s.heap.objs.size (·.push .none) >>= fun _ => updateSeq s.heap.objs.size (·.pop)) _ _ _
  have e4' : s₄.heap.get? s.heap.objs.size = some { cls := .type "list", data := .seq #[] n4 } := e4
  refine wpAny_bind (wpAny_updateSeq e4' rfl ?_)
  have hS₅ := Heap.get?_update_self (Obj.mapSeq (·.push Value.none)) e4' rfl
  obtain ⟨G₅, st₅⟩ := upd (·.push .none) (vs := [.none]) (ms := [.none]) G₄ hl4 hp4' hS₅ (.cons .none .nil)
  refine wpAny_updateSeq hS₅ rfl ?_
  have hS₆ := Heap.get?_update_self (Obj.mapSeq (·.pop)) hS₅ rfl
  obtain ⟨G₆, st₆⟩ := upd (·.pop) (vs := []) (ms := []) G₅ (List.getElem?_set_self (List.getElem?_eq_some_iff.mp hl4).1) hp4' hS₆ .nil
  rw [List.set_set, set_same hl4] at G₆
  exact wpAny_pure ⟨plainId_quiet F.plain_extend_loop _, key _ G₆ ((st14.trans st₅).trans st₆)⟩)
end
end
section
open PySem PySem.W PyProof.Rows
section
variable {W : Wd} {Kf : Frag} {σ : Hp} {n : Nat} {K : MV → Hp → Prop} {KE : Xc → Hp → Prop}

theorem call_list_inst (F : Pr W Kf) (hn : n ≤ 30) {h l : Nat} {rows : List Row} (H : HasRows σ h l rows) (hw : wf σ)
    (hs : K (.lst (rowsM rows)) σ) : CallM W n (.type "list") [.obj h] [] σ K KE := by
  have FX := F.toSx
  have H1 := H.app [MO.list []]
  have hw1 : wf (σ ++ [MO.list []]) := hw.app fun k _ => rfl
  have hll : l < σ.length := (List.getElem?_eq_some_iff.mp H.list).1
  refine call_list_of (by omega) H.inst (ty_inst FX.toSf H1.inst) ?_
  refine iter_inst FX.toSf H1.inst ?_
  refine c_iter FX F.f415 (by omega) H1 hw1 ?_
  refine ⟨_, _, _, rfl, lookup_last _ _, ?_⟩
  have hw2 : ∀ p, wf (σ ++ [MO.list []] ++ [MO.sem (listIt (.obj l) p)]) := fun p => hw1.app fun k hk => by
    simp [MO.ok, listIt, objSem, MV.ok] at hk ⊢; omega
  have H2 := H1.app [MO.sem (listIt (.obj l) 0)]
  refine hint_inst FX.toSf H2.inst ?_
  refine call_len_inst FX.toSf H2.inst (by omega) ?_
  refine c_len FX F.f422 (by omega) H2 (hw2 0) ?_
  have hf := H.few
  refine ⟨_, by omega, rfl, rows.length, by omega, rfl, mid2 _ _ _, ?_⟩
  rw [show (σ ++ [MO.list []]).length = σ.length + 1 by simp]
  refine ext_ind (by omega) (fun m σ' => ∃ p, m = rows.length - p ∧ p ≤ rows.length ∧ σ' = σ ++ [.list (rowsM (rows.take p))] ++ [.sem (listIt (.obj l) p)]) ?_ rows.length ⟨0, rfl, Nat.zero_le _, rfl⟩
  rintro m σ' ⟨p, rfl, hp, rfl⟩
  have H3 := (H.app [MO.list (rowsM (rows.take p))]).app [MO.sem (listIt (.obj l) p)]
  refine nxt_list (by omega) (last2 _ _ _) (as_obj H3.list) (fun mv hm => ?_) (fun hm => ?_)
  · rw [rowsM_get, Option.map_eq_some_iff] at hm
    obtain ⟨r, hr, rfl⟩ := hm
    have hpl := (List.getElem?_eq_some_iff.mp hr).1
    have e1 : rows.take (p + 1) = rows.take p ++ [r] := by rw [List.take_add_one, hr]; rfl
    rw [set_last2]
    refine ⟨_, mid2 _ _ _, by rw [rowsM_len, List.length_take]; omega, rows.length - (p + 1), by omega, p + 1, rfl, by omega, ?_⟩
    rw [set_mid2, e1]
    simp [rowsM]
  · have e3 : rows.take p = rows := by
      rw [rowsM_get, Option.map_eq_none_iff, List.getElem?_eq_none_iff] at hm
      exact List.take_of_length_le hm
    rw [set_last2, e3]
    have et : ∀ a b : MO, (σ ++ [a] ++ [b]).take σ.length = σ := fun a b => by rw [List.append_assoc]; exact List.take_left
    refine ⟨_, mid2 _ _ _, ?_, ok_rows _ _, ?_⟩
    · rw [et]; exact hw _ (Nat.le_refl _)
    · rw [et]; exact hs

theorem c_to_wsgi (F : Pr W Kf) (hn : n ≤ 28) {h l : Nat} {rows : List Row} (H : HasRows σ h l rows) (hw : wf σ)
    (hs : K (.lst (rowsM rows)) σ) : CallM W n (.ref 503) [.obj h] [] σ K KE := by
  refine call_cd (by omega) (CdP.cut ?_)
  obtain ⟨r, D⟩ := F.f503
  refine fn_call (body := bodyOf (hdrStmt 30)) D F.lim (by omega) rfl ⟨rfl, rfl, rfl⟩ ?_
  refine bd_pos (ps := ["self"]) (fun vs hv => ?_) rfl ?_
  · match vs, hv with
    | [a], _ => rfl
  refine ⟨rfl, ?_⟩
  have FX := F.toSx
  walk_at "mv"
  refine ⟨_, rfl, by walk_at "mv_keep", ?_⟩
  walk_at "mv"
  refine call_list_inst F (by omega) H hw ?_
  exact cut_all (Nat.le_refl _) hw (ok_rows _ _) hs
end
end
section
open PySem PySem.W PyProof.Rows
section
variable {W : Wd} {Kf : Frag} {c : Cx} {g g₁ : Heap} {ρ ρ₁ : Rho} {loc loc' : Loc} {σ σ' : Hp} {s s₁ : Shared} {n : Nat} {sc scope : Scope}
variable {K : MV → Hp → Prop} {KE : Xc → Hp → Prop}

@[irreducible] def JnP (W : Wd) (n : Nat) (sc : Scope) (es : List Expr) (acc : Str) (loc : Loc) (σ : Hp) (K : Str → Hp → Prop) (KE : Xc → Hp → Prop) : Prop :=
  ∀ c g ρ s, COk W n sc c → Good W c g ρ loc σ s → Joins (Mo W) c.A (XPost W c g ρ loc s KE) (evalEach es c.env) acc (fun out s' => PostA W c g ρ loc s (fun (_ : Unit) σ' => out.length ≤ sizeLine ∧ K out σ') () s') s

theorem joins_mono {M : Model} {A : Around} {E E' : Value → Shared → Prop} {Q Q' : Str → Shared → Prop} (hE : ∀ e s, E e s → E' e s) (hQ : ∀ a s, Q a s → Q' a s) : ∀ (parts : List (Sem Value)) (acc : Str) (s : Shared), Joins M A E parts acc Q s → Joins M A E' parts acc Q' s
  | [], acc, s, h => hQ _ _ h
  | x :: rest, acc, s, h => wpAny_mono h (fun v s₁ ⟨y, t, e, hz, hr⟩ => ⟨y, t, e, hz, joins_mono hE hQ rest _ _ hr⟩) hE

theorem jn_nil {acc : Str} {K : Str → Hp → Prop} (hz : acc.length ≤ 1000000) (h : K acc σ) : JnP W n sc [] acc loc σ K KE := by with_unfolding_all exact (fun c g ρ s C G =>
  ⟨σ, g, ρ, ⟨by rw [sizeLine_eq]; omega, h⟩, .refl, G⟩)
theorem jn_cons {e : Expr} {es : List Expr} {acc : Str} {K : Str → Hp → Prop} (h : EvP W n sc e loc σ (fun m σ₁ => ∃ y, m = .str y ∧ (acc ++ y).length ≤ 1000000 ∧ JnP W n sc es (acc ++ y) loc σ₁ K KE) KE) : JnP W n sc (e :: es) acc loc σ K KE := by with_unfolding_all exact (fun c g ρ s C G => by
  refine wpAny_mono (h c g ρ s C G) (fun v s₁ q => ?_) fun _ _ x => x
  obtain ⟨m, σ₁, g₁, ρ₁, ⟨y, rfl, hz, hJ⟩, st, G₁, r⟩ := q
  cases r
  exact ⟨y, _, rfl, by rw [sizeLine_eq]; omega, joins_mono (fun _ _ x => x.after st) (fun _ _ x => x.after st) _ _ _ (hJ c g₁ ρ₁ s₁ C G₁)⟩)
theorem ev_joined {v₁ v₂ : Expr} {rest : List Expr} {pos : Pos} (h : JnP W n sc (v₁ :: v₂ :: rest) Str.empty loc σ (fun x σ' => K (.str x) σ') KE) : EvP W n sc (.JoinedStr (v₁ :: v₂ :: rest) pos) loc σ K KE := by with_unfolding_all exact (fun c g ρ s C G => by
  refine wpAny_JoinedStr (joins_mono (fun _ _ x => x) (fun out s₁ q => ?_) _ _ _ (h c g ρ s C G))
  obtain ⟨σ', g', ρ', ⟨hz, hK⟩, st, G'⟩ := q
  exact ⟨hz, _, σ', g', ρ', hK, st.trans (Step.tok _), G'.tok _, .str _ _⟩)
theorem ev_fmt {value : Expr} {pos : Pos} (h : EvP W n sc value loc σ (fun m σ₁ => ∃ y, m = .str y ∧ y.length ≤ 1000000 ∧ K (.str y) σ₁) KE) : EvP W n sc (.FormattedValue value (-1) none pos) loc σ K KE := by with_unfolding_all exact (fun c g ρ s C G => by
  refine wpAny_FormattedValue_plain (wpAny_mono (h c g ρ s C G) (fun v s₁ q => ?_) fun _ _ x => x)
  obtain ⟨m, σ₁, g₁, ρ₁, ⟨y, rfl, hz, hK⟩, st, G₁, r⟩ := q
  cases r
  exact wpAny_formatField_str ⟨_, σ₁, g₁, ρ₁, hK, st, G₁, .str _ _⟩ ⟨_, σ₁, g₁, ρ₁, hK, st.trans (Step.tok _), G₁.tok _, .str _ _⟩ (by rw [sizeLine_eq]; omega))

theorem strsAre_of : ∀ {ys : List Str} {vs : List Value}, VRels g ρ (strsM ys) vs → StrsAre vs ys
  | [], _, .nil => .nil
  | y :: ys, _, .cons (.str _ t) h => .cons _ _ (strsAre_of h)
theorem getM_join {x : Str} : GetM W (.str x) (Str.ofString "join") σ (.builtin "str.join") := by with_unfolding_all exact (getM_str "join" "str.join" fun h => GM.join h)
theorem call_join {x : Str} {m : MV} {ys : List Str} (hm : asList σ m = some (strsM ys)) (hz : (ys.map (·.length)).sum + ys.length * x.length ≤ 16777216) (h : K (.str (Txt.join x ys)) σ) :
    CallM W n (.builtin "str.join") [.str x, m] [] σ K KE := by with_unfolding_all exact (fun sc c g ρ loc s vs kvs C G r kr => by
  cases kr
  cases r with | cons r₁ r₂ =>
  cases r₂ with | cons r₂ r₃ =>
  cases r₃
  cases r₁
  obtain ⟨a, vs, n', rfl, ha, hvs⟩ := list_at G hm r₂
  exact join_list (isList_of ha) (by simpa using strsAre_of hvs) hz fun t' k => ⟨_, σ, g, ρ, h, Step.tok _, G.tok _, .str _ _⟩)
end
end
section
open PySem PySem.W PyProof.Rows
section
variable {W : Wd} {Kf : Frag} {σ : Hp} {n : Nat} {K : MV → Hp → Prop} {KE : Xc → Hp → Prop}

/-- a row as a line -/
def lineOf (r : Row) : Str := r.1 ++ (": " : Str) ++ r.2
def crlf : Str := "\r\n"
def strOf (rows : List Row) : Str := Txt.join crlf (rows.map lineOf ++ [crlf])

theorem nil_app (x : Str) : Str.empty ++ x = x := str_nil_append rfl
theorem len_app (x y : Str) : (x ++ y).length = x.length + y.length := strLen_append x y

theorem c_str (F : Pr W Kf) (hn : n ≤ 26) {h l : Nat} {rows : List Row} (H : HasRows σ h l rows) (hw : wf σ) (hz : (rows.map fun r => (lineOf r).length).sum ≤ 1000000)
    (hs : K (.str (strOf rows)) σ) : CallM W n (.ref 517) [.obj h] [] σ K KE := by
  refine call_cd (by omega) (CdP.cut ?_)
  obtain ⟨r, D⟩ := F.f517
  refine fn_call (body := bodyOf (hdrStmt 32)) D F.lim (by omega) rfl ⟨rfl, rfl, rfl⟩ ?_
  refine bd_pos (ps := ["self"]) (fun vs hv => ?_) rfl ?_
  · match vs, hv with
    | [a], _ => rfl
  refine ⟨rfl, ?_⟩
  have FX := F.toSx
  have hhl : h < σ.length := (List.getElem?_eq_some_iff.mp H.inst).1
  have hf := H.few
  walk_at "mv"
  refine ev_list_new ?_
  walk_at "mv"
  refine meth_at FX 503 (lookup_app H.inst) ?_
  walk_at "mv"
  have hw1 : ∀ ys, wf (σ ++ [MO.list (strsM ys)]) := fun ys => hw.app fun k _ => strsM_ok _ _
  refine c_to_wsgi F (by omega) (H.app [MO.list []]) (hw1 []) ?_
  refine iter_list (l := rowsM rows) rfl ?_
  rw [show (σ ++ [MO.list []]).length = σ.length + 1 by simp]
  have hw2 : ∀ ys p, wf (σ ++ [MO.list (strsM ys)] ++ [MO.sem (listIt (.lst (rowsM rows)) p)]) := fun ys p => (hw1 ys).app fun k _ => by
    simp only [MO.ok, listIt, objSem, MV.ok]; exact ok_rows _ _
  have hlen : ∀ p : Nat, ((rows.take p).map lineOf).length ≤ 1000 := fun p => by rw [List.length_map, List.length_take]; omega
  refine loop_ind (fun m loc' σ' => ∃ p, m = rows.length - p ∧ p ≤ rows.length ∧ loc' = _ ∧ σ' = σ ++ [.list (strsM ((rows.take p).map lineOf))] ++ [.sem (listIt (.lst (rowsM rows)) p)]) ?_ rows.length ⟨0, rfl, Nat.zero_le _, rfl, rfl⟩
  rintro m loc' σ' ⟨p, rfl, hp, rfl, rfl⟩
  refine nxt_list (l := rowsM rows) (by omega) (last2 _ _ _) rfl (fun mv hm => ?_) (fun hm => ?_)
  · rw [rowsM_get, Option.map_eq_some_iff] at hm
    obtain ⟨r, hr, rfl⟩ := hm
    have hsr := H.short r (List.mem_of_getElem? hr)
    have hpl := (List.getElem?_eq_some_iff.mp hr).1
    have e1 : rows.take (p + 1) = rows.take p ++ [r] := by rw [List.take_add_one, hr]; rfl
    rw [set_last2]
    refine as_tuple (by omega) rfl (fun _ => ⟨rfl, rfl⟩) ?_
    refine ass_cons ?_ (fun _ => rfl)
    refine as_name rfl ?_
    refine ass_cons ?_ (fun _ => rfl)
    refine as_name rfl ?_
    refine ass_nil ?_
    walk_at "mv"
    refine ⟨_, getM_append (as_obj (mid2 _ _ _)), by walk_at "mv_keep", ?_⟩
    walk_at "mv"
    refine ev_joined ?_
    refine jn_cons ?_
    refine ev_fmt ?_
    walk_at "mv"
    refine ⟨_, rfl, by omega, ?_⟩
    refine ⟨_, rfl, ?_⟩
    rw [nil_app]
    refine ⟨by omega, ?_⟩
    refine jn_cons ?_
    walk_at "mv"
    refine ⟨_, rfl, by rw [len_app]; have : (Str.ofString ": ").length = 2 := rfl; omega, ?_⟩
    refine jn_cons ?_
    refine ev_fmt ?_
    walk_at "mv"
    refine ⟨_, rfl, by omega, ?_⟩
    have e2 : (r.1 ++ Str.ofString ": " ++ r.2).length ≤ 1000000 := by rw [len_app, len_app]; have : (Str.ofString ": ").length = 2 := rfl; omega
    refine ⟨_, rfl, e2, ?_⟩
    refine jn_nil e2 ?_
    walk_at "mv"
    refine call_append (mid2 _ _ _) (by rw [strsM, List.length_map]; exact hlen p) ?_
    refine ⟨rfl, ?_⟩
    walk_at "mv"
    rw [set_mid2]
    refine ⟨rows.length - (p + 1), by omega, ?_⟩
    have e3 : strsM ((rows.take p).map lineOf) ++ [MV.str (r.1 ++ Str.ofString ": " ++ r.2)] = strsM ((rows.take (p + 1)).map lineOf) := by
      rw [e1]; simp [strsM, lineOf]
    rw [e3]
    exact less_full (by simp) (sub_cons rfl (sub_cons rfl (SubL.refl _))) (by simp [locOk, MV.ok]; omega) (hw2 _ _) ⟨p + 1, rfl, by omega, rfl, rfl⟩
  · have e3 : rows.take p = rows := by
      rw [rowsM_get, Option.map_eq_none_iff, List.getElem?_eq_none_iff] at hm
      exact List.take_of_length_le hm
    rw [set_last2, e3]
    walk_at "mv"
    refine ⟨_, getM_append (as_obj (mid2 _ _ _)), by walk_at "mv_keep", ?_⟩
    walk_at "mv"
    refine call_append (mid2 _ _ _) (by rw [strsM, List.length_map, List.length_map]; exact hf) ?_
    refine ⟨rfl, ?_⟩
    walk_at "mv"
    rw [set_mid2]
    refine ⟨_, getM_join, by walk_at "mv_keep", ?_⟩
    walk_at "mv"
    have e4 : strsM (rows.map lineOf) ++ [MV.str (Str.ofString "\r\n")] = strsM (rows.map lineOf ++ [crlf]) := by simp [strsM, crlf]
    rw [e4]
    refine call_join (ys := rows.map lineOf ++ [crlf]) (as_obj (mid2 _ _ _)) ?_ ?_
    · have hc : crlf.length = 2 := rfl
      rw [show (Str.ofString "\r\n").length = 2 from rfl]
      simp only [List.map_append, List.map_map, List.sum_append, List.length_append, List.length_map, List.map_cons, List.map_nil, List.sum_cons, List.sum_nil, List.length_cons, List.length_nil]
      have e5 : (rows.map ((fun x => x.length) ∘ lineOf)).sum ≤ 1000000 := hz
      omega
    · walk_at "mv"
      rw [List.append_assoc]
      exact cut_same hw rfl hs
end
end
section
open PySem PySem.W PyProof.Rows
section
variable {W : Wd} {Kf : Frag} {σ : Hp} {n : Nat} {K : MV → Hp → Prop} {KE : Xc → Hp → Prop}

def rowY (b : Bool) (r : Row) : MV := .tup [.str (if b then low r.1 else r.1), .str r.2]

open Classical in
/-- what items() does at each wake -/
noncomputable def itemsF (h l : Nat) (rows : List Row) (b : Bool) : GFun := fun st σ => match st with
  | ([], 0) => if HasRows σ h l rows ∧ wf σ then some (match rows[0]? with
      | some r => (some (rowY b r), fun σ => σ ++ [.sem (listIt (.obj l) 1)], ([σ.length], 1))
      | none => (none, fun σ => σ ++ [.dead], ([σ.length], 1))) else none
  | ([it], p) => if HasRows σ h l rows ∧ σ[it]? = some (.sem (listIt (.obj l) p)) then some (match rows[p]? with
      | some r => (some (rowY b r), fun σ => σ.set it (.sem (listIt (.obj l) (p + 1))), ([it], p + 1))
      | none => (none, fun σ => σ.set it .dead, ([it], p + 1))) else none
  | _ => none

def itemsLc (h : Nat) (b : Bool) : Loc := [("self", .obj h), ("lower", .bool b)]
abbrev itemsLoc (h : Nat) (b : Bool) : GSt → Loc := fun _ => itemsLc h b

/-- one turn of its loop -/
theorem items_turn (F : Pr W Kf) {B m : Nat} (hB : B ≤ 45) {h l it p : Nat} {rows : List Row} {b : Bool} {env : Env} (E : GenEnv env (scopeOf (hdrStmt 7)) env.locals (itemsLoc h b)) (hi : interactive env = false)
    {target iter : Expr} {body : List Stmt} {pos p' : Pos} (hst : bodyOf (hdrStmt 7) = [.For target iter body [] pos]) {itv : Value} {σ₁ : Hp} {r? : Option MV} {st' : GSt} {F' : GFun}
    (H : HasRows σ h l rows) (hit : σ[it]? = some (.sem (listIt (.obj l) p)))
    (hs : ∀ r, rows[p]? = some r → r? = some (rowY b r) ∧ σ₁ = σ.set it (.sem (listIt (.obj l) (p + 1))) ∧ it ∈ st'.1)
    (he : rows[p]? = none → r? = none ∧ σ₁ = σ.set it .dead)
    (tail : GT W B env (itemsLoc h b) F' m st' [(it, itv)] (.forLoop target itv body [] env) ((execs [] env).wrap (turnK target itv body env) (turnH env) id id)
      [.ret (loopK env (fun f => match f with | .next => (execs [] env).wrap funK (funH env) id id | f => funK f) (funH env)) none false [] (.func (bodyOf (hdrStmt 7)) env) p' []]) :
    GP W B env (itemsLoc h b) F' m r? σ₁ st' (.forLoop target itv body [] env) (denote table (.forLoop target itv body [] env))
      [.ret (loopK env (fun f => match f with | .next => (execs [] env).wrap funK (funH env) id id | f => funK f) (funH env)) none false [] (.func (bodyOf (hdrStmt 7)) env) p' []] (itemsLc h b) σ [(it, itv)] := by
  injection hst with hst _
  injection hst with h1 h2 h3 h4 h5
  subst h1; subst h2; subst h3; subst h5
  refine g_turn (j := 1) E (OverOk.func.loop) (by omega) (.head _) fun n hn => ?_
  refine nxt_list (by omega) hit (as_obj H.list) (fun mv hm => ?_) (fun hm => ?_)
  · rw [rowsM_get, Option.map_eq_some_iff] at hm
    obtain ⟨r, hr, rfl⟩ := hm
    obtain ⟨rfl, rfl, hin⟩ := hs r hr
    have hsr := H.short r (List.mem_of_getElem? hr)
    refine aq_tuple (by omega) rfl (fun _ => ⟨rfl, rfl⟩) ?_
    refine aqs_cons ?_ (fun _ => rfl)
    refine aq_name rfl ?_
    refine aqs_cons ?_ (fun _ => rfl)
    refine aq_name rfl ?_
    refine aqs_nil ?_
    refine g_cons ?_
    refine g_if E (OverOk.func.loop) (by omega) fun n hn => ?_
    refine ts_val ?_ (fun _ _ => rfl)
    refine ev_local (m := .bool b) rfl rfl rfl ?_
    refine tst_bool ?_
    cases b with
    | false =>
      rw [if_neg (by decide)]
      refine g_nil ?_
      dsimp only
      refine g_cons ?_
      refine g_yield E (OverOk.func.loop) (by omega) hi (fun n hn => ?_) (sub_cons rfl (sub_cons rfl (SubL.refl _))) (fun x hx => by simp at hx; subst hx; exact hin) tail
      walk_at "mv"
      exact ⟨by simp, rfl, rfl⟩
    | true =>
      rw [if_pos rfl]
      refine g_cons ?_
      refine g_stmt E (OverOk.func.loop) (by omega) (fun n hn => ?_)
      walk_at "mv"
      refine ⟨_, getM_lower, keep_builtin _, ?_⟩
      walk_at "mv"
      refine call_lower hsr.1 ?_
      walk_at "mv"
      refine ⟨rfl, ?_⟩
      refine g_nil ?_
      dsimp only
      refine g_cons ?_
      refine g_yield E (OverOk.func.loop) (by omega) hi (fun n hn => ?_) (sub_cons rfl (sub_cons rfl (sub_cons rfl (SubL.refl _)))) (fun x hx => by simp at hx; subst hx; exact hin) tail
      walk_at "mv"
      exact ⟨by simp, rfl, rfl⟩
  · rw [rowsM_get, Option.map_eq_none_iff] at hm
    obtain ⟨rfl, rfl⟩ := he hm
    dsimp only
    refine g_nil ?_
    exact g_end rfl rfl (SubL.refl _)

open Classical in
theorem items_tail (F : Pr W Kf) {B : Nat} (hB : B ≤ 45) {h l it : Nat} {rows : List Row} {b : Bool} {env : Env} (E : GenEnv env (scopeOf (hdrStmt 7)) env.locals (itemsLoc h b)) (hi : interactive env = false)
    {target iter : Expr} {body : List Stmt} {pos p' : Pos} (hst : bodyOf (hdrStmt 7) = [.For target iter body [] pos]) {itv : Value} :
    ∀ (m p : Nat), 0 < p → GT W B env (itemsLoc h b) (itemsF h l rows b) m ([it], p) [(it, itv)] (.forLoop target itv body [] env) ((execs [] env).wrap (turnK target itv body env) (turnH env) id id)
      [.ret (loopK env (fun f => match f with | .next => (execs [] env).wrap funK (funH env) id id | f => funK f) (funH env)) none false [] (.func (bodyOf (hdrStmt 7)) env) p' []]
  | 0, p, _ => trivial
  | m + 1, p, hp => by
    intro hown σ r upd st' hF
    have hF' : (if HasRows σ h l rows ∧ σ[it]? = some (.sem (listIt (.obj l) p)) then some (match rows[p]? with
      | some r => (some (rowY b r), fun σ : Hp => σ.set it (.sem (listIt (.obj l) (p + 1))), (([it], p + 1) : GSt))
      | none => (none, fun σ => σ.set it .dead, ([it], p + 1))) else none) = some (r, upd, st') := by
      rw [← hF]; simp only [itemsF]
    split at hF'
    · rename_i hc
      obtain ⟨H, hit⟩ := hc
      have ih := items_tail F hB E hi (p' := p') hst (itv := itv) (it := it) (l := l) (rows := rows) m (p + 1) (by omega)
      cases hr : rows[p]? with
      | some row =>
        rw [hr] at hF'
        cases hF'
        refine g_nil ?_
        refine g_again ?_
        exact items_turn F hB E hi hst H hit (fun r' hr' => by rw [hr] at hr'; cases hr'; exact ⟨rfl, rfl, .head _⟩) (fun q => by rw [hr] at q; cases q) ih
      | none =>
        rw [hr] at hF'
        cases hF'
        refine g_nil ?_
        refine g_again ?_
        exact items_turn F hB E hi hst H hit (fun r' hr' => by rw [hr] at hr'; cases hr') (fun _ => ⟨rfl, rfl⟩) ih
    · cases hF'

theorem GenEnv.inter {env : Env} {gsc : Scope} {d : Addr} {L : GSt → Loc} (E : GenEnv env gsc d L) : interactive env = false := by
  unfold PySem.interactive
  rw [E.sc, E.kind]; rfl

open Classical in
theorem items_fresh (F : Pr W Kf) {B : Nat} (hB : B ≤ 45) {h l : Nat} {rows : List Row} {b : Bool} {env : Env} (E : GenEnv env (scopeOf (hdrStmt 7)) env.locals (itemsLoc h b)) (m : Nat) :
    GSpec W B env (itemsLoc h b) (itemsF h l rows b) m ([], 0) [] (.fresh (.func (bodyOf (hdrStmt 7)) env)) := by
  cases m with
  | zero => trivial
  | succ m =>
  have FX := F.toSx
  obtain ⟨target, iter, body, pos, hst⟩ : ∃ t i b p, bodyOf (hdrStmt 7) = [.For t i b [] p] := ⟨_, _, _, _, rfl⟩
  refine gspec_fresh ?_
  intro hown σ r upd st' hF
  have hF' : (if HasRows σ h l rows ∧ wf σ then some (match rows[0]? with
      | some r => (some (rowY b r), fun σ : Hp => σ ++ [MO.sem (listIt (.obj l) 1)], (([σ.length], 1) : GSt))
      | none => (none, fun σ => σ ++ [MO.dead], ([σ.length], 1))) else none) = some (r, upd, st') := by
    rw [← hF]; simp only [itemsF]
  split at hF'
  · rename_i hc
    obtain ⟨H, hw⟩ := hc
    refine g_start ?_
    rw [hst]
    refine g_cons ?_
    refine g_for (j := 0) E OverOk.func (by omega) (by injection hst with hst _; injection hst with h1 h2 h3 h4 h5; subst h2; exact fun _ _ => rfl) fun n hn => ?_
    have hself : iter = .Name "self" (match iter with | .Name _ p => p | _ => default) := by injection hst with hst _; injection hst with h1 h2 h3 h4 h5; subst h2; rfl
    rw [hself]
    refine ev_local (m := .obj h) rfl rfl rfl ?_
    refine iter_inst FX.toSf H.inst ?_
    refine c_iter FX F.f415 (by omega) H hw ?_
    refine ⟨_, _, _, rfl, lookup_last _ _, fun itv p => ?_⟩
    rw [← hself, ← hst]
    refine items_turn F hB E E.inter hst (H.app _) (lookup_last _ _) (fun r' hr' => ?_) (fun hr' => ?_) ?_
    · rw [hr'] at hF'; cases hF'
      exact ⟨rfl, by rw [set_last], .head _⟩
    · rw [hr'] at hF'; cases hF'
      exact ⟨rfl, by rw [set_last]⟩
    · have : st' = ([σ.length], 1) := by
        cases hr : rows[0]? with
        | some row => rw [hr] at hF'; cases hF'; rfl
        | none => rw [hr] at hF'; cases hF'; rfl
      rw [this]
      exact items_tail F hB E E.inter hst m 1 (by omega)
  · cases hF'

noncomputable abbrev itemsS (W : Wd) (B h l : Nat) (rows : List Row) (b : Bool) (m : Nat) (st : GSt) : MO := .sem (genS W B (scopeOf (hdrStmt 7)) (itemsLoc h b) (itemsF h l rows b) m st)

theorem c_items (F : Pr W Kf) (hn : n ≤ 45) (B m : Nat) (hB : B ≤ 45) {h l : Nat} {rows : List Row} {b : Bool}
    (hs : K (.obj σ.length) (σ ++ [itemsS W B h l rows b m ([], 0)])) : CallM W n (.ref 342) [.obj h, .bool b] [] σ K KE := by
  refine call_cd (by omega) ?_
  obtain ⟨r, T, n0, D, hT⟩ := F.f342
  refine gen_call0 (body := bodyOf (hdrStmt 7)) (B := B) (F := itemsF h l rows b) (m := m) (st0 := ([], 0)) D F.lim (by omega) rfl ⟨rfl, rfl, rfl⟩ rfl ?_
  refine bd_def (ps := ["self", "lower"]) rfl hT [] (fun x hx => by cases hx) (fun vs hv => ?_) rfl ?_
  · match vs, hv with
    | [a, b], _ => exact ⟨_, rfl, rfl⟩
  refine ⟨⟨⟨(by decide : (["self", "lower"] : List Str).Nodup), fun x hx => ?_⟩, fun env E => items_fresh F hB E m⟩, hs⟩
  simp only [List.zip_cons_cons, List.mem_cons, List.append_nil, List.map_nil] at hx
  rcases hx with rfl | rfl | hx
  · rfl
  · rfl
  · cases hx
theorem c_items0 (F : Pr W Kf) (hn : n ≤ 45) (B m : Nat) (hB : B ≤ 45) {h l : Nat} {rows : List Row}
    (hs : K (.obj σ.length) (σ ++ [itemsS W B h l rows false m ([], 0)])) : CallM W n (.ref 342) [.obj h] [] σ K KE := by
  refine call_cd (by omega) ?_
  obtain ⟨r, T, n0, D, hT⟩ := F.f342
  refine gen_call0 (body := bodyOf (hdrStmt 7)) (B := B) (F := itemsF h l rows false) (m := m) (st0 := ([], 0)) D F.lim (by omega) rfl ⟨rfl, rfl, rfl⟩ rfl ?_
  refine bd_def (ps := ["self", "lower"]) rfl hT [(.bool false, .bool false)] (fun x hx g ρ => by simp at hx; subst hx; exact .bool _) (fun vs hv => ?_) rfl ?_
  · match vs, hv with
    | [a], _ => exact ⟨_, rfl, rfl⟩
  refine ⟨⟨⟨(by decide : (["self", "lower"] : List Str).Nodup), fun x hx => ?_⟩, fun env E => items_fresh F hB E m⟩, hs⟩
  simp only [List.zip_cons_cons, List.mem_cons, List.append_nil, List.map_nil, List.map_cons, List.cons_append, List.nil_append] at hx
  rcases hx with rfl | rfl | hx
  · rfl
  · rfl
  · cases hx
end
end
section
open PySem PySem.W PyProof.Rows
section
variable {W : Wd} {σ : Hp} {n : Nat} {sc : Scope} {loc : Loc}
theorem AsQ.mono {t : Expr} {m : MV} {K K' : Loc → Hp → Prop} (h : AsQ W n sc t m loc σ K) (hK : ∀ l σ, K l σ → K' l σ) : AsQ W n sc t m loc σ K' := by with_unfolding_all exact (fun c g ρ s v E C G r =>
  wpAny_mono (h c g ρ s v E C G r) (fun _ s' ⟨l, σ', g', ρ', k, x⟩ => ⟨l, σ', g', ρ', hK _ _ k, x⟩) fun _ _ x => x)
theorem EvP.mono {e : Expr} {K K' : MV → Hp → Prop} {KE KE' : Xc → Hp → Prop} (h : EvP W n sc e loc σ K KE) (hK : ∀ l σ, K l σ → K' l σ) (hE : ∀ l σ, KE l σ → KE' l σ) : EvP W n sc e loc σ K' KE' := by with_unfolding_all exact (fun c g ρ s C G =>
  wpAny_mono (h c g ρ s C G) (fun _ s' ⟨l, σ', g', ρ', k, x⟩ => ⟨l, σ', g', ρ', hK _ _ k, x⟩) fun _ _ ⟨l, σ', g', ρ', h0, k, x⟩ => ⟨l, σ', g', ρ', h0, hE _ _ k, x⟩)
theorem CallM.mono {f : Value} {ms : List MV} {kws : List (Str × MV)} {K K' : MV → Hp → Prop} {KE KE' : Xc → Hp → Prop} (h : CallM W n f ms kws σ K KE) (hK : ∀ l σ, K l σ → K' l σ) (hE : ∀ l σ, KE l σ → KE' l σ) : CallM W n f ms kws σ K' KE' := by with_unfolding_all exact (fun sc c g ρ loc s vs kvs C G r kr =>
  wpAny_mono (h sc c g ρ loc s vs kvs C G r kr) (fun _ s' ⟨l, σ', g', ρ', k, x⟩ => ⟨l, σ', g', ρ', hK _ _ k, x⟩) fun _ _ ⟨l, σ', g', ρ', h0, k, x⟩ => ⟨l, σ', g', ρ', h0, hE _ _ k, x⟩)
end
section
variable {W : Wd} {Kf : Frag} {σ : Hp} {n : Nat} {K : MV → Hp → Prop} {KE : Xc → Hp → Prop}

theorem HasRows.ne {σ : Hp} {h l : Nat} {rows : List Row} (H : HasRows σ h l rows) {k : Nat} {x : SemObj} (hk : σ[k]? = some (.sem x)) : h ≠ k ∧ l ≠ k := by
  refine ⟨fun q => ?_, fun q => ?_⟩
  · have := H.inst; rw [q, hk] at this; cases this
  · have := H.list; rw [q, hk] at this; cases this
theorem HasRows.set {σ : Hp} {h l : Nat} {rows : List Row} (H : HasRows σ h l rows) {k : Nat} (hh : h ≠ k) (hl : l ≠ k) (o : MO) : HasRows (σ.set k o) h l rows :=
  ⟨by rw [List.getElem?_set_ne (Ne.symm hh)]; exact H.inst, by rw [List.getElem?_set_ne (Ne.symm hl)]; exact H.list, H.short, H.few⟩

open Classical in
theorem itemsF_at {h l it p : Nat} {rows : List Row} {b : Bool} {τ : Hp} (H : HasRows τ h l rows) (hit : τ[it]? = some (.sem (listIt (.obj l) p))) : itemsF h l rows b ([it], p) τ = some (match rows[p]? with
      | some r => (some (rowY b r), fun σ : Hp => σ.set it (MO.sem (listIt (.obj l) (p + 1))), (([it], p + 1) : GSt))
      | none => (none, fun σ => σ.set it MO.dead, ([it], p + 1))) := by
  simp only [itemsF]
  rw [if_pos ⟨H, hit⟩]
  all_goals (cases rows[p]? <;> rfl)
open Classical in
theorem itemsF_at0 {h l : Nat} {rows : List Row} {b : Bool} {τ : Hp} (H : HasRows τ h l rows) (hw : wf τ) : itemsF h l rows b ([], 0) τ = some (match rows[0]? with
      | some r => (some (rowY b r), fun σ : Hp => σ ++ [MO.sem (listIt (.obj l) 1)], (([τ.length], 1) : GSt))
      | none => (none, fun σ => σ ++ [MO.dead], ([τ.length], 1))) := by
  simp only [itemsF]
  rw [if_pos ⟨H, hw⟩]
  all_goals (cases rows[0]? <;> rfl)

theorem nxt_items {B : Nat} (hn : n < B ∧ B ≤ 45) (hlim : W.base.NoLimit) {t : Expr} {h l k it p m : Nat} {rows : List Row} {b : Bool} {KS : MV → Hp → Prop} {KN : Hp → Prop} (H : HasRows σ h l rows) (hk : σ[k]? = some (itemsS W B h l rows b (m + 1) ([it], p))) (hit : σ[it]? = some (.sem (listIt (.obj l) p))) (hne : it ≠ k)
    (hs : ∀ r, rows[p]? = some r → KS (rowY b r) ((σ.set it (.sem (listIt (.obj l) (p + 1)))).set k (itemsS W B h l rows b m ([it], p + 1)))) (he : rows[p]? = none → KN ((σ.set it .dead).set k .dead)) : NxtP W n t k σ KS KN := by
  refine nxt_gen hn hlim hk fun bo hbo => ?_
  have hkl : k < σ.length := (List.getElem?_eq_some_iff.mp hk).1
  have H' := H.set (H.ne hk).1 (H.ne hk).2 bo
  have hit' : (σ.set k bo)[it]? = some (.sem (listIt (.obj l) p)) := by rw [List.getElem?_set_ne (Ne.symm hne)]; exact hit
  have e := itemsF_at (b := b) H' hit'
  have g : ∀ x : MO, ((σ.set k bo).set it x)[k]? = some bo := fun x => by rw [List.getElem?_set_ne hne, List.getElem?_set_self hkl]
  have c : ∀ x y : MO, ((σ.set k bo).set it x).set k y = (σ.set it x).set k y := fun x y => by rw [List.set_comm _ _ hne, List.set_set, List.set_comm _ _ (Ne.symm hne)]
  cases hr : rows[p]? with
  | some r =>
    rw [hr] at e
    exact ⟨_, _, _, e, g _, by dsimp only; rw [c]; exact hs r hr⟩
  | none =>
    rw [hr] at e
    exact ⟨_, _, _, e, g _, by dsimp only; rw [c]; exact he hr⟩
theorem nxt_items0 {B : Nat} (hn : n < B ∧ B ≤ 45) (hlim : W.base.NoLimit) {t : Expr} {h l m : Nat} {rows : List Row} {b : Bool} {KS : MV → Hp → Prop} {KN : Hp → Prop} (H : HasRows σ h l rows) (hw : wf σ)
    (hs : ∀ r, rows[0]? = some r → KS (rowY b r) (σ ++ [itemsS W B h l rows b m ([σ.length + 1], 1)] ++ [.sem (listIt (.obj l) 1)])) (he : rows[0]? = none → KN (σ ++ [.dead] ++ [.dead])) : NxtP W n t σ.length (σ ++ [itemsS W B h l rows b (m + 1) ([], 0)]) KS KN := by
  refine nxt_gen hn hlim (lookup_last _ _) fun bo hbo => ?_
  rw [set_last]
  have e := itemsF_at0 (b := b) (H.app [bo]) (hw.app fun k _ => hbo k)
  rw [show (σ ++ [bo]).length = σ.length + 1 by simp] at e
  cases hr : rows[0]? with
  | some r =>
    rw [hr] at e
    exact ⟨_, _, _, e, mid2 _ _ _, by dsimp only; rw [set_mid2]; exact hs r hr⟩
  | none =>
    rw [hr] at e
    exact ⟨_, _, _, e, mid2 _ _ _, by dsimp only; rw [set_mid2]; exact he hr⟩

open Classical in
/-- what a generator over items() does at each wake: it hands on a part of each pair -/
noncomputable def projF (W : Wd) (B h l : Nat) (rows : List Row) (b : Bool) (M : Nat) (f : Row → MV) : GFun := fun st σ => match st with
  | ([], 0) => if HasRows σ h l rows ∧ wf σ then some (match rows[0]? with
      | some r => (some (f r), fun σ => σ ++ [itemsS W B h l rows b (M - 1) ([σ.length + 1], 1)] ++ [.sem (listIt (.obj l) 1)], ([σ.length], 1))
      | none => (none, fun σ => σ ++ [.dead] ++ [.dead], ([σ.length], 1))) else none
  | ([k], p) => if HasRows σ h l rows ∧ σ[k]? = some (itemsS W B h l rows b (M - p) ([k + 1], p)) ∧ σ[k + 1]? = some (.sem (listIt (.obj l) p)) ∧ p ≤ rows.length then some (match rows[p]? with
      | some r => (some (f r), fun σ => (σ.set (k + 1) (.sem (listIt (.obj l) (p + 1)))).set k (itemsS W B h l rows b (M - (p + 1)) ([k + 1], p + 1)), ([k], p + 1))
      | none => (none, fun σ => (σ.set (k + 1) .dead).set k .dead, ([k], p + 1))) else none
  | _ => none

open Classical in
theorem projF_at {B h l k p M : Nat} {rows : List Row} {b : Bool} {f : Row → MV} {τ : Hp} (H : HasRows τ h l rows) (hk : τ[k]? = some (itemsS W B h l rows b (M - p) ([k + 1], p))) (hit : τ[k + 1]? = some (.sem (listIt (.obj l) p))) (hp : p ≤ rows.length) : projF W B h l rows b M f ([k], p) τ = some (match rows[p]? with
      | some r => (some (f r), fun σ : Hp => (σ.set (k + 1) (MO.sem (listIt (.obj l) (p + 1)))).set k (itemsS W B h l rows b (M - (p + 1)) ([k + 1], p + 1)), (([k], p + 1) : GSt))
      | none => (none, fun σ => (σ.set (k + 1) MO.dead).set k MO.dead, ([k], p + 1))) := by
  simp only [projF]
  rw [if_pos ⟨H, hk, hit, hp⟩]
open Classical in
theorem projF_at0 {B h l M : Nat} {rows : List Row} {b : Bool} {f : Row → MV} {τ : Hp} (H : HasRows τ h l rows) (hw : wf τ) : projF W B h l rows b M f ([], 0) τ = some (match rows[0]? with
      | some r => (some (f r), fun σ : Hp => σ ++ [itemsS W B h l rows b (M - 1) ([σ.length + 1], 1)] ++ [MO.sem (listIt (.obj l) 1)], (([τ.length], 1) : GSt))
      | none => (none, fun σ => σ ++ [MO.dead] ++ [MO.dead], ([τ.length], 1))) := by
  simp only [projF]
  rw [if_pos ⟨H, hw⟩]

/-- one turn of such a generator's loop -/
theorem proj_turn {B m : Nat} {f : Row → MV} {rows : List Row} {b : Bool} {env : Env} {gsc : Scope} {loc0 : Loc} (E : GenEnv env gsc env.locals (fun _ => loc0))
    {target iter e : Expr} {yp ep pos p' : Pos} {F' : GFun} {stm : List Stmt}
    (hb : ∀ n, n ≤ B + 1 → ∀ r ∈ rows, ∀ σ', AsQ W n gsc target (rowY b r) loc0 σ' (fun loc₂ σ₂ => σ₂ = σ' ∧ SubL loc0 loc₂ ∧ ∀ n, n ≤ B + 1 → EvP W n gsc e loc₂ σ₂ (fun mv σ₃ => mv = f r ∧ σ₃ = σ₂) NE))
    {itv : Value} {σ σ₁ : Hp} {r? : Option MV} {st' : GSt} {k p : Nat} {σS σN : Hp}
    (hN : ∀ n, n ≤ B + 1 → ∀ KS KN, (∀ r, rows[p]? = some r → KS (rowY b r) σS) → (rows[p]? = none → KN σN) → NxtP W n target k σ KS KN)
    (hs : ∀ r, rows[p]? = some r → r? = some (f r) ∧ σ₁ = σS ∧ k ∈ st'.1)
    (he : rows[p]? = none → r? = none ∧ σ₁ = σN)
    (tail : GT W B env (fun _ => loc0) F' m st' [(k, itv)] (.forLoop target itv [.Expr (.Yield (some e) yp) ep] [] env) ((execs [] env).wrap (turnK target itv [.Expr (.Yield (some e) yp) ep] env) (turnH env) id id)
      [.ret (loopK env (fun f => match f with | .next => (execs [] env).wrap funK (funH env) id id | f => funK f) (funH env)) none false [] (.func stm env) p' []]) :
    GP W B env (fun _ => loc0) F' m r? σ₁ st' (.forLoop target itv [.Expr (.Yield (some e) yp) ep] [] env) (denote table (.forLoop target itv [.Expr (.Yield (some e) yp) ep] [] env))
      [.ret (loopK env (fun f => match f with | .next => (execs [] env).wrap funK (funH env) id id | f => funK f) (funH env)) none false [] (.func stm env) p' []] loc0 σ [(k, itv)] := by
  refine g_turn (j := 1) E (OverOk.func.loop) (by omega) (.head _) fun n hn => ?_
  refine hN n hn _ _ (fun r hr => ?_) (fun hr => ?_)
  · obtain ⟨rfl, rfl, hin⟩ := hs r hr
    have hA := hb n hn r (List.mem_of_getElem? hr) σ₁
    refine AsQ.mono hA ?_
    rintro loc₂ σ₂ ⟨rfl, hsub, hE⟩
    refine g_cons ?_
    refine g_yield E (OverOk.func.loop) (by omega) E.inter (fun n hn => ?_) hsub (fun x hx => by simp at hx; subst hx; exact hin) tail
    refine EvP.mono (hE n hn) ?_ fun _ _ x => x
    rintro mv σ₃ ⟨rfl, rfl⟩
    exact ⟨rfl, rfl⟩
  · obtain ⟨rfl, rfl⟩ := he hr
    dsimp only
    refine g_nil ?_
    exact g_end rfl rfl (SubL.refl _)

open Classical in
theorem proj_tail (F : Pr W Kf) {B B' M : Nat} (hB : B + 1 < B' ∧ B' ≤ 45) {f : Row → MV} {h l : Nat} {rows : List Row} {b : Bool} (hM : rows.length < M) {env : Env} {gsc : Scope} {loc0 : Loc} (E : GenEnv env gsc env.locals (fun _ => loc0))
    {target iter e : Expr} {yp ep pos p' : Pos} {stm : List Stmt}
    (hb : ∀ n, n ≤ B + 1 → ∀ r ∈ rows, ∀ σ', AsQ W n gsc target (rowY b r) loc0 σ' (fun loc₂ σ₂ => σ₂ = σ' ∧ SubL loc0 loc₂ ∧ ∀ n, n ≤ B + 1 → EvP W n gsc e loc₂ σ₂ (fun mv σ₃ => mv = f r ∧ σ₃ = σ₂) NE))
    {itv : Value} {k : Nat} :
    ∀ (m p : Nat), 0 < p → GT W B env (fun _ => loc0) (projF W B' h l rows b M f) m ([k], p) [(k, itv)] (.forLoop target itv [.Expr (.Yield (some e) yp) ep] [] env) ((execs [] env).wrap (turnK target itv [.Expr (.Yield (some e) yp) ep] env) (turnH env) id id)
      [.ret (loopK env (fun f => match f with | .next => (execs [] env).wrap funK (funH env) id id | f => funK f) (funH env)) none false [] (.func stm env) p' []]
  | 0, p, _ => trivial
  | m + 1, p, hp => by
    intro hown σ r upd st' hF
    have ih := proj_tail F hB (itv := itv) (k := k) (stm := stm) (p' := p') (h := h) (l := l) hM E (iter := iter) (pos := pos) (yp := yp) (ep := ep) hb m (p + 1) (by omega)
    simp only [projF] at hF
    split at hF
    · rename_i hc
      obtain ⟨H, hk, hit, hpl⟩ := hc
      have hN : ∀ n, n ≤ B + 1 → ∀ KS KN, (∀ r, rows[p]? = some r → KS (rowY b r) ((σ.set (k + 1) (.sem (listIt (.obj l) (p + 1)))).set k (itemsS W B' h l rows b (M - (p + 1)) ([k + 1], p + 1)))) → (rows[p]? = none → KN ((σ.set (k + 1) .dead).set k .dead)) → NxtP W n target k σ KS KN := fun n hn KS KN h1 h2 =>
        nxt_items ⟨by omega, hB.2⟩ F.lim H (by rw [show M - (p + 1) + 1 = M - p by omega]; exact hk) hit (by omega) h1 h2
      cases hr : rows[p]? with
      | some row =>
        rw [hr] at hF
        cases hF
        refine g_nil ?_
        refine g_again ?_
        exact proj_turn (iter := iter) (pos := pos) E hb hN (fun r' hr' => by rw [hr] at hr'; cases hr'; exact ⟨rfl, rfl, .head _⟩) (fun q => by rw [hr] at q; cases q) ih
      | none =>
        rw [hr] at hF
        cases hF
        refine g_nil ?_
        refine g_again ?_
        exact proj_turn (iter := iter) (pos := pos) E hb hN (fun r' hr' => by rw [hr] at hr'; cases hr') (fun _ => ⟨rfl, rfl⟩) ih
    · cases hF

open Classical in
theorem proj_fresh (F : Pr W Kf) {B B' M : Nat} (hB : B + 1 < B' ∧ B' ≤ 45) {f : Row → MV} {h l : Nat} {rows : List Row} {b : Bool} (hM : rows.length < M) {env : Env} {gsc : Scope} {loc0 : Loc} (E : GenEnv env gsc env.locals (fun _ => loc0))
    {target iter e : Expr} {yp ep pos : Pos} {stm : List Stmt} (hst : stm = [.For target iter [.Expr (.Yield (some e) yp) ep] [] pos]) (hfs : ∀ env x, foldedSetIterable iter env x = pure x)
    (hb : ∀ n, n ≤ B + 1 → ∀ r ∈ rows, ∀ σ', AsQ W n gsc target (rowY b r) loc0 σ' (fun loc₂ σ₂ => σ₂ = σ' ∧ SubL loc0 loc₂ ∧ ∀ n, n ≤ B + 1 → EvP W n gsc e loc₂ σ₂ (fun mv σ₃ => mv = f r ∧ σ₃ = σ₂) NE))
    (hit : ∀ n, n ≤ B + 1 → ∀ σ (K : MV → Hp → Prop), HasRows σ h l rows → K (.obj σ.length) (σ ++ [itemsS W B' h l rows b M ([], 0)]) → EvP W n gsc iter loc0 σ K NE) (m : Nat) :
    GSpec W B env (fun _ => loc0) (projF W B' h l rows b M f) m ([], 0) [] (.fresh (.func stm env)) := by
  cases m with
  | zero => trivial
  | succ m =>
  refine gspec_fresh ?_
  intro hown σ r upd st' hF
  simp only [projF] at hF
  split at hF
  · rename_i hc
    obtain ⟨H, hw⟩ := hc
    refine g_start ?_
    rw [hst]
    refine g_cons ?_
    refine g_for (j := 0) E OverOk.func (by omega) hfs fun n hn => ?_
    refine hit n hn _ _ H ?_
    refine iter_gen (lookup_last _ _) ?_
    intro itv p
    have hM1 : M = M - 1 + 1 := by omega
    refine proj_turn (p := 0) (iter := iter) (pos := pos) (σS := σ ++ [itemsS W B' h l rows b (M - 1) ([σ.length + 1], 1)] ++ [.sem (listIt (.obj l) 1)]) (σN := σ ++ [.dead] ++ [.dead]) E hb (fun n hn KS KN h1 h2 => ?_) (fun r' hr' => ?_) (fun hr' => ?_) ?_
    · rw [hM1]
      exact nxt_items0 ⟨by omega, hB.2⟩ F.lim H hw h1 h2
    · rw [hr'] at hF; cases hF
      exact ⟨rfl, rfl, .head _⟩
    · rw [hr'] at hF; cases hF
      exact ⟨rfl, rfl⟩
    · have : st' = ([σ.length], 1) := by
        cases hr : rows[0]? with
        | some row => rw [hr] at hF; cases hF; rfl
        | none => rw [hr] at hF; cases hF; rfl
      rw [this]
      exact proj_tail F hB (iter := iter) (pos := pos) (yp := yp) (ep := ep) hM E hb m 1 (by omega)
  · cases hF
end
end
section
open PySem PySem.W PyProof.Rows
section
variable {W : Wd} {Kf : Frag} {c : Cx} {g g₁ : Heap} {ρ ρ₁ : Rho} {loc loc' : Loc} {σ σ' : Hp} {s s₁ : Shared} {n : Nat} {sc scope : Scope}
variable {K : MV → Hp → Prop} {KE : Xc → Hp → Prop}

/-- a method called with one keyword -/
theorem ev_mcall_kw {o : Expr} {name kn : Str} {value : Expr} {kp : Pos} {apos pos : Pos}
    (hev : ∀ env, eval (.Call (.Attribute o name apos) [] [⟨some kn, value, kp⟩] pos) env = (do
      let ov ← eval o env
      standAt apos.atName
      methodCall o name apos pos env ov (0 + 1) (backTo pos (starEach [] env)) (backToKw pos (keywordEach [⟨some kn, value, kp⟩] env))))
    (hpos : (apos.endLine == pos.line) = true)
    (h : EvP W n sc o loc σ (fun m σ₁ => ∃ f, GetM W m name σ₁ f ∧ KeepOk W f ∧ EvP W n sc value loc σ₁ (fun mv σ₂ => CallM W n f [m] [(kn, mv)] σ₂ K KE) KE) KE) : EvP W n sc (.Call (.Attribute o name apos) [] [⟨some kn, value, kp⟩] pos) loc σ K KE := by with_unfolding_all exact (fun c g ρ s C G => by
  rw [hev]
  refine wpAny_bind (wpAny_mono (h c g ρ s C G) (fun v s₁ q => ?_) fun _ _ x => x)
  obtain ⟨m, σ₁, g₁, ρ₁, ⟨f, hG, hk, hE⟩, st₁, G₁, r₁⟩ := q
  refine wpAny_bind (wpAny_standAt ?_)
  unfold methodCall
  rw [show methodCallForm (0 + 1) (backTo pos (starEach [] c.env)) (backToKw pos (keywordEach [⟨some kn, value, kp⟩] c.env)) = true from rfl]
  refine wpAny_bind (wpAny_holding ?_)
  unfold calleeOf
  rw [if_pos rfl]
  refine hG n sc c g₁ ρ₁ loc s₁ v _ C G₁ r₁ c.A _ _ ?_
  dsimp only
  refine wpAny_bind ?_
  unfold methodCallPos
  rw [if_pos (by rw [hpos]; rfl)]
  refine wpAny_pure ?_
  refine wp_after st₁ ?_
  refine callWith_of (P := fun h => W.base.StaysIn h) (by rfl) hk ?_
  refine evalArgs_kw2_nil rfl ?_
  refine kwAll_cons (wpAny_mono (hE c g₁ ρ₁ s₁ C G₁) (fun v₂ s₂ q => ?_) fun _ _ x => x)
  obtain ⟨m₂, σ₂, g₂, ρ₂, hC, st₂, G₂, r₂⟩ := q
  refine kwAll_nil ⟨G₂.baseIn, ?_⟩
  exact wp_after st₂ (hC sc c g₂ ρ₂ loc s₂ [v] [(kn, v₂)] C G₂ (.one (r₁.mono st₂.ge st₂.re)) (.cons r₂ .nil)))

theorem call_cd_kw {f : Value} {ms : List MV} {kws : List (Str × MV)} (hn : n ≤ 50) (h : CdP W n (fun vs kvs => .call f ⟨vs, kvs⟩) ms kws σ K KE) : CallM W n f ms kws σ K KE := by with_unfolding_all exact (fun sc c g ρ loc s vs kvs C G r kr => by
  refine wpAny_call (codeAny_mono (h sc c g ρ loc s vs kvs c.A C G r kr (C.near (by omega))) fun x s' hx => ?_)
  cases x with
  | error e => exact hx
  | ok f => cases f with
    | ret v => exact hx
    | _ => exact hx)

theorem bd_kw {fd : FuncData} {ms : List MV} {kn : Str} {m : MV} {ps : List Str} {K : Loc → Hp → Prop} {T : Addr} {dvs : List Value} {n0 : Nat} (hd : fd.defaults = .ref T) (hT : W.base.get? T = some (tupObj dvs n0))
    (hb : ∀ (vs : List Value) (v : Value), vs.length = ms.length → ∃ k : Option (Array Value) → Sem (List (Str × Value)), bindArgs fd ⟨vs, [(kn, v)]⟩ = seqItems? fd.defaults >>= k ∧ k (some dvs.toArray) = pure (ps.zip (vs ++ [v])))
    (hl : ps.length = ms.length + 1) (h : K (ps.zip (ms ++ [m])) σ) :
    BdP W n fd ms [(kn, m)] σ K := by with_unfolding_all exact (fun sc c g ρ loc s vs kvs A C G r kr N E => by
  cases kr with | cons r₁ kr =>
  cases kr
  obtain ⟨k, h₁, h₂⟩ := hb vs _ r.length.symm
  refine BindsTo.of_defaults hd (G.gh _ _ (G.base _ _ hT)) rfl h₁ h₂ (Mo W) A.in1 E _ ?_
  exact ⟨_, σ, g, ρ, h, .refl, G, BRel.zip (r.append (.one r₁)) (by simp; exact hl)⟩)
end
section
variable {W : Wd} {Kf : Frag} {σ : Hp} {n : Nat} {K : MV → Hp → Prop} {KE : Xc → Hp → Prop}

def keyY (b : Bool) (r : Row) : MV := .str (if b then low r.1 else r.1)
def valY (r : Row) : MV := .str r.2
def keysLoc (h : Nat) (b : Bool) : Loc := [("self", .obj h), ("lower", .bool b)]
def valsLoc (h : Nat) : Loc := [("self", .obj h)]
/-- keys() asleep -/
noncomputable abbrev keysS (W : Wd) (h l : Nat) (rows : List Row) (b : Bool) (m : Nat) (st : GSt) : MO := .sem (genS W 43 (scopeOf (hdrStmt 8)) (fun _ => keysLoc h b) (projF W 45 h l rows b 2000 (keyY b)) m st)
noncomputable abbrev valsS (W : Wd) (h l : Nat) (rows : List Row) (m : Nat) (st : GSt) : MO := .sem (genS W 43 (scopeOf (hdrStmt 9)) (fun _ => valsLoc h) (projF W 45 h l rows false 2000 valY) m st)

theorem keys_fresh (F : Pr W Kf) {h l : Nat} {rows : List Row} {b : Bool} (hz : rows.length < 1000) {env : Env} (E : GenEnv env (scopeOf (hdrStmt 8)) env.locals (fun _ => keysLoc h b)) (m : Nat) :
    GSpec W 43 env (fun _ => keysLoc h b) (projF W 45 h l rows b 2000 (keyY b)) m ([], 0) [] (.fresh (.func (bodyOf (hdrStmt 8)) env)) := by
  have FX := F.toSx
  refine proj_fresh F (B := 43) (by omega) (by omega) E (stm := bodyOf (hdrStmt 8)) rfl (fun _ _ => rfl) (fun n hn r hr σ' => ?_) (fun n hn σ K H hK => ?_) m
  · refine aq_tuple (by omega) rfl (fun _ => ⟨rfl, rfl⟩) ?_
    refine aqs_cons ?_ (fun _ => rfl)
    refine aq_name rfl ?_
    refine aqs_cons ?_ (fun _ => rfl)
    refine aq_name rfl ?_
    refine aqs_nil ?_
    refine ⟨rfl, sub_cons rfl (sub_cons rfl (SubL.refl _)), fun n hn => ?_⟩
    refine ev_local rfl rfl rfl ?_
    exact ⟨rfl, rfl⟩
  · refine ev_mcall (fun _ _ => rfl) (fun _ => rfl) (by decide) rfl ?_
    refine ev_local (m := .obj h) rfl rfl rfl ?_
    refine meth_at FX 342 H.inst ?_
    refine evs_cons ?_ (fun _ => rfl)
    refine ev_local (m := .bool b) rfl rfl rfl ?_
    refine evs_nil ?_
    exact c_items F (by omega) 45 2000 (by omega) hK

theorem vals_fresh (F : Pr W Kf) {h l : Nat} {rows : List Row} (hz : rows.length < 1000) {env : Env} (E : GenEnv env (scopeOf (hdrStmt 9)) env.locals (fun _ => valsLoc h)) (m : Nat) :
    GSpec W 43 env (fun _ => valsLoc h) (projF W 45 h l rows false 2000 valY) m ([], 0) [] (.fresh (.func (bodyOf (hdrStmt 9)) env)) := by
  have FX := F.toSx
  refine proj_fresh F (B := 43) (by omega) (by omega) E (stm := bodyOf (hdrStmt 9)) rfl (fun _ _ => rfl) (fun n hn r hr σ' => ?_) (fun n hn σ K H hK => ?_) m
  · refine aq_tuple (by omega) rfl (fun _ => ⟨rfl, rfl⟩) ?_
    refine aqs_cons ?_ (fun _ => rfl)
    refine aq_name rfl ?_
    refine aqs_cons ?_ (fun _ => rfl)
    refine aq_name rfl ?_
    refine aqs_nil ?_
    refine ⟨rfl, sub_cons rfl (sub_cons rfl (SubL.refl _)), fun n hn => ?_⟩
    refine ev_local rfl rfl rfl ?_
    exact ⟨rfl, rfl⟩
  · refine ev_mcall (fun _ _ => rfl) (fun _ => rfl) (by decide) rfl ?_
    refine ev_local (m := .obj h) rfl rfl rfl ?_
    refine meth_at FX 342 H.inst ?_
    refine evs_nil ?_
    exact c_items0 F (by omega) 45 2000 (by omega) hK

theorem c_keys (F : Pr W Kf) (hn : n ≤ 45) {h l : Nat} {rows : List Row} {b : Bool} (hz : rows.length < 1000)
    (hs : K (.obj σ.length) (σ ++ [keysS W h l rows b 2000 ([], 0)])) : CallM W n (.ref 350) [.obj h] [("lower", .bool b)] σ K KE := by
  refine call_cd_kw (by omega) ?_
  obtain ⟨r, T, n0, D, hT⟩ := F.f350
  refine gen_call0 (body := bodyOf (hdrStmt 8)) (B := 43) (F := projF W 45 h l rows b 2000 (keyY b)) (m := 2000) (st0 := ([], 0)) D F.lim (by omega) rfl ⟨rfl, rfl, rfl⟩ rfl ?_
  refine bd_kw (ps := ["self", "lower"]) rfl hT (fun vs v hv => ?_) rfl ?_
  · match vs, hv with
    | [a], _ => exact ⟨_, rfl, rfl⟩
  refine ⟨⟨⟨(by decide : (["self", "lower"] : List Str).Nodup), fun x hx => ?_⟩, fun env E => keys_fresh F hz E 2000⟩, hs⟩
  simp only [List.zip_cons_cons, List.mem_cons, List.append_nil, List.map_nil, List.cons_append, List.nil_append] at hx
  rcases hx with rfl | rfl | hx
  · rfl
  · rfl
  · cases hx
theorem c_keys0 (F : Pr W Kf) (hn : n ≤ 45) {h l : Nat} {rows : List Row} (hz : rows.length < 1000)
    (hs : K (.obj σ.length) (σ ++ [keysS W h l rows false 2000 ([], 0)])) : CallM W n (.ref 350) [.obj h] [] σ K KE := by
  refine call_cd (by omega) ?_
  obtain ⟨r, T, n0, D, hT⟩ := F.f350
  refine gen_call0 (body := bodyOf (hdrStmt 8)) (B := 43) (F := projF W 45 h l rows false 2000 (keyY false)) (m := 2000) (st0 := ([], 0)) D F.lim (by omega) rfl ⟨rfl, rfl, rfl⟩ rfl ?_
  refine bd_def (ps := ["self", "lower"]) rfl hT [(.bool false, .bool false)] (fun x hx g ρ => by simp at hx; subst hx; exact .bool _) (fun vs hv => ?_) rfl ?_
  · match vs, hv with
    | [a], _ => exact ⟨_, rfl, rfl⟩
  refine ⟨⟨⟨(by decide : (["self", "lower"] : List Str).Nodup), fun x hx => ?_⟩, fun env E => keys_fresh F hz E 2000⟩, hs⟩
  simp only [List.zip_cons_cons, List.mem_cons, List.append_nil, List.map_nil, List.map_cons, List.cons_append, List.nil_append] at hx
  rcases hx with rfl | rfl | hx
  · rfl
  · rfl
  · cases hx
theorem c_values (F : Pr W Kf) (hn : n ≤ 45) {h l : Nat} {rows : List Row} (hz : rows.length < 1000)
    (hs : K (.obj σ.length) (σ ++ [valsS W h l rows 2000 ([], 0)])) : CallM W n (.ref 357) [.obj h] [] σ K KE := by
  refine call_cd (by omega) ?_
  obtain ⟨r, D⟩ := F.f357
  refine gen_call0 (body := bodyOf (hdrStmt 9)) (B := 43) (F := projF W 45 h l rows false 2000 valY) (m := 2000) (st0 := ([], 0)) D F.lim (by omega) rfl ⟨rfl, rfl, rfl⟩ rfl ?_
  refine bd_pos (ps := ["self"]) (fun vs hv => ?_) rfl ?_
  · match vs, hv with
    | [a], _ => rfl
  refine ⟨⟨⟨(by decide : (["self"] : List Str).Nodup), fun x hx => ?_⟩, fun env E => vals_fresh F hz E 2000⟩, hs⟩
  simp only [List.zip_cons_cons, List.mem_cons, List.zip_nil_left] at hx
  rcases hx with rfl | hx
  · rfl
  · cases hx
end
end
section
open PySem PySem.W PyProof.Rows
section
variable {W : Wd} {Kf : Frag} {σ : Hp} {n : Nat} {K : MV → Hp → Prop} {KE : Xc → Hp → Prop}

/-- a generator over items(), asleep -/
noncomputable abbrev projS (W : Wd) (gsc : Scope) (loc0 : Loc) (h l : Nat) (rows : List Row) (b : Bool) (f : Row → MV) (m : Nat) (st : GSt) : MO := .sem (genS W 43 gsc (fun _ => loc0) (projF W 45 h l rows b 2000 f) m st)

theorem nxt_proj0 (hn : n < 43) (hlim : W.base.NoLimit) {gsc : Scope} {loc0 : Loc} {f : Row → MV} {t : Expr} {h l k m : Nat} {rows : List Row} {b : Bool} {KS : MV → Hp → Prop} {KN : Hp → Prop} (H : HasRows σ h l rows) (hw : wf σ)
    (hk : σ[k]? = some (projS W gsc loc0 h l rows b f (m + 1) ([], 0)))
    (hs : ∀ r, rows[0]? = some r → KS (f r) (σ.set k (projS W gsc loc0 h l rows b f m ([σ.length], 1)) ++ [itemsS W 45 h l rows b 1999 ([σ.length + 1], 1)] ++ [.sem (listIt (.obj l) 1)]))
    (he : rows[0]? = none → KN (σ.set k .dead ++ [.dead] ++ [.dead])) : NxtP W n t k σ KS KN := by
  refine nxt_gen ⟨hn, by omega⟩ hlim hk fun bo hbo => ?_
  have hkl : k < σ.length := (List.getElem?_eq_some_iff.mp hk).1
  have hl : (σ.set k bo).length = σ.length := List.length_set
  have e := projF_at0 (W := W) (B := 45) (M := 2000) (b := b) (f := f) (H.set (H.ne hk).1 (H.ne hk).2 bo) (hw.set (i := k) fun j _ => hbo j)
  rw [hl] at e
  have hb : (σ.set k bo)[k]? = some bo := List.getElem?_set_self hkl
  have sk : ∀ x y z : MO, (σ.set k bo ++ [x] ++ [y]).set k z = σ.set k z ++ [x] ++ [y] := fun x y z => by
    rw [set_in2 _ _ _ _ (by rw [hl]; exact hkl), List.set_set]
  cases hr : rows[0]? with
  | some r =>
    rw [hr] at e
    refine ⟨_, _, _, e, by rw [List.append_assoc]; exact lookup_app hb, ?_⟩
    dsimp only
    rw [sk, hl]
    exact hs r hr
  | none =>
    rw [hr] at e
    refine ⟨_, _, _, e, by rw [List.append_assoc]; exact lookup_app hb, ?_⟩
    dsimp only
    rw [sk]
    exact he hr

theorem nxt_proj (hn : n < 43) (hlim : W.base.NoLimit) {gsc : Scope} {loc0 : Loc} {f : Row → MV} {t : Expr} {h l k k1 p m : Nat} {rows : List Row} {b : Bool} {KS : MV → Hp → Prop} {KN : Hp → Prop} (H : HasRows σ h l rows)
    (hk : σ[k]? = some (projS W gsc loc0 h l rows b f (m + 1) ([k1], p))) (hk1 : σ[k1]? = some (itemsS W 45 h l rows b (2000 - p) ([k1 + 1], p))) (hit : σ[k1 + 1]? = some (.sem (listIt (.obj l) p))) (hp : p ≤ rows.length) (n1 : k ≠ k1) (n2 : k ≠ k1 + 1)
    (hs : ∀ r, rows[p]? = some r → KS (f r) (((σ.set (k1 + 1) (.sem (listIt (.obj l) (p + 1)))).set k1 (itemsS W 45 h l rows b (2000 - (p + 1)) ([k1 + 1], p + 1))).set k (projS W gsc loc0 h l rows b f m ([k1], p + 1))))
    (he : rows[p]? = none → KN (((σ.set (k1 + 1) .dead).set k1 .dead).set k .dead)) : NxtP W n t k σ KS KN := by
  refine nxt_gen ⟨hn, by omega⟩ hlim hk fun bo hbo => ?_
  have hkl : k < σ.length := (List.getElem?_eq_some_iff.mp hk).1
  have e := projF_at (W := W) (B := 45) (M := 2000) (b := b) (f := f) (H.set (H.ne hk).1 (H.ne hk).2 bo) (by rw [List.getElem?_set_ne n1]; exact hk1) (by rw [List.getElem?_set_ne n2]; exact hit) hp
  have hb : ∀ x y : MO, (((σ.set k bo).set (k1 + 1) x).set k1 y)[k]? = some bo := fun x y => by
    rw [List.getElem?_set_ne (Ne.symm n1), List.getElem?_set_ne (Ne.symm n2), List.getElem?_set_self hkl]
  have sk : ∀ x y z : MO, (((σ.set k bo).set (k1 + 1) x).set k1 y).set k z = ((σ.set (k1 + 1) x).set k1 y).set k z := fun x y z => by
    rw [List.set_comm _ _ (Ne.symm n1), List.set_comm _ _ (Ne.symm n2), List.set_set, List.set_comm _ _ n2, List.set_comm _ _ n1]
  cases hr : rows[p]? with
  | some r =>
    rw [hr] at e
    refine ⟨_, _, _, e, hb _ _, ?_⟩
    dsimp only
    rw [sk]
    exact hs r hr
  | none =>
    rw [hr] at e
    refine ⟨_, _, _, e, hb _ _, ?_⟩
    dsimp only
    rw [sk]
    exact he hr

theorem set_tail (σ : Hp) (a b c x : MO) (k : Nat) : (k < σ.length → (σ ++ [a] ++ [b] ++ [c]).set k x = σ.set k x ++ [a] ++ [b] ++ [c]) ∧ (σ ++ [a] ++ [b] ++ [c]).set σ.length x = σ ++ [x] ++ [b] ++ [c] ∧
    (σ ++ [a] ++ [b] ++ [c]).set (σ.length + 1) x = σ ++ [a] ++ [x] ++ [c] ∧ (σ ++ [a] ++ [b] ++ [c]).set (σ.length + 1 + 1) x = σ ++ [a] ++ [b] ++ [x] := by
  refine ⟨fun h => ?_, ?_, ?_, ?_⟩ <;> simp [List.set_append, List.append_assoc, Nat.add_assoc]
  intro h'; omega
theorem get_tail (σ : Hp) (a b c : MO) : (σ ++ [a] ++ [b] ++ [c])[σ.length]? = some a ∧ (σ ++ [a] ++ [b] ++ [c])[σ.length + 1]? = some b ∧ (σ ++ [a] ++ [b] ++ [c])[σ.length + 1 + 1]? = some c := by
  refine ⟨?_, ?_, ?_⟩ <;> simp [List.getElem?_append, Nat.add_assoc]

theorem call_list_proj (F : Pr W Kf) (hn : n ≤ 40) {gsc : Scope} {loc0 : Loc} {f : Row → MV} {h l k m : Nat} {rows : List Row} {b : Bool} (hz : rows.length < 1000) (H : HasRows σ h l rows) (hw : wf σ) (hm : rows.length < m) (hm2 : m ≤ 2000) (hf : ∀ j r, (f r).ok j = true)
    (hk : σ[k]? = some (projS W gsc loc0 h l rows b f m ([], 0))) (hs : K (.lst (rows.map f)) (σ.set k .dead)) : CallM W n (.type "list") [.obj k] [] σ K KE := by
  have hkl : k < σ.length := (List.getElem?_eq_some_iff.mp hk).1
  have hll : l < σ.length := (List.getElem?_eq_some_iff.mp H.list).1
  have oks : ∀ j (rs : List Row), oksL j (rs.map f) = true := fun j rs => by
    induction rs with
    | nil => rfl
    | cons r rs ih => simp only [List.map_cons, oksL, Bool.and_eq_true]; exact ⟨hf _ _, ih⟩
  have hw1 : ∀ ls, (∀ j, oksL j ls = true) → wf (σ ++ [MO.list ls]) := fun ls h => hw.app fun j _ => h j
  refine call_list_of (by omega) hk (ty_gen (lookup_app hk)) ?_
  refine iter_gen (lookup_app hk) ?_
  refine hint_gen (lookup_app hk) ?_
  refine ⟨lookup_last _ _, ?_⟩
  let T : Nat → Hp := fun p => σ.set k (projS W gsc loc0 h l rows b f (m - p) ([σ.length + 1], p)) ++ [.list ((rows.take p).map f)] ++ [itemsS W 45 h l rows b (2000 - p) ([σ.length + 1 + 1], p)] ++ [.sem (listIt (.obj l) p)]
  have ls : ∀ x : MO, (σ.set k x).length = σ.length := fun _ => List.length_set
  have done : ∀ (x : MO) a b, K (.lst (rows.map f)) (σ.set k .dead) → ∃ items, (σ.set k MO.dead ++ [MO.list (rows.map f)] ++ [a] ++ [b])[σ.length]? = some (.list items) ∧ ((σ.set k MO.dead ++ [MO.list (rows.map f)] ++ [a] ++ [b]).take σ.length).all (·.ok σ.length) = true ∧ oksL σ.length items = true ∧ K (.lst items) ((σ.set k MO.dead ++ [MO.list (rows.map f)] ++ [a] ++ [b]).take σ.length) := fun x a b hK => by
    have et : (σ.set k MO.dead ++ [MO.list (rows.map f)] ++ [a] ++ [b]).take σ.length = σ.set k MO.dead := by
      have := List.take_left (l₁ := σ.set k MO.dead) (l₂ := [MO.list (rows.map f)] ++ [a] ++ [b])
      rw [ls] at this
      simpa [List.append_assoc] using this
    rw [et]
    refine ⟨_, ?_, (hw.set (i := k) (o := MO.dead) fun j _ => rfl) _ (by rw [ls]; exact Nat.le_refl _), oks _ _, hK⟩
    have := (get_tail (σ.set k MO.dead) (MO.list (rows.map f)) a b).1
    rwa [ls] at this
  refine ext_ind (by omega) (fun m' σ' => ∃ p, m' = rows.length + 1 - p ∧ p ≤ rows.length ∧ ((p = 0 ∧ σ' = σ ++ [.list []]) ∨ (0 < p ∧ σ' = T p))) ?_ (rows.length + 1) ⟨0, rfl, Nat.zero_le _, .inl ⟨rfl, rfl⟩⟩
  rintro m' σ' ⟨p, rfl, hp, hc⟩
  rcases hc with ⟨rfl, rfl⟩ | ⟨h0, rfl⟩
  · have hk' : (σ ++ [MO.list []])[k]? = some (projS W gsc loc0 h l rows b f (m - 1 + 1) ([], 0)) := by rw [show m - 1 + 1 = m by omega]; exact lookup_app hk
    have e0 : (σ ++ [MO.list []]).length = σ.length + 1 := by simp
    refine nxt_proj0 (by omega) F.lim (H.app _) (hw1 [] fun _ => rfl) hk' (fun r hr => ?_) (fun hr => ?_)
    · have hpl := (List.getElem?_eq_some_iff.mp hr).1
      rw [e0, List.set_append_left k _ hkl]
      have e1 : rows.take 1 = [r] := by rw [List.take_add_one, hr]; rfl
      refine ⟨[], ?_, by simp, rows.length + 1 - 1, by omega, 1, rfl, hpl, .inr ⟨by omega, ?_⟩⟩
      · have := (get_tail (σ.set k (projS W gsc loc0 h l rows b f (m - 1) ([σ.length + 1], 1))) (MO.list []) (itemsS W 45 h l rows b 1999 ([σ.length + 1 + 1], 1)) (.sem (listIt (.obj l) 1))).1
        rwa [ls] at this
      · have := (set_tail (σ.set k (projS W gsc loc0 h l rows b f (m - 1) ([σ.length + 1], 1))) (MO.list []) (itemsS W 45 h l rows b 1999 ([σ.length + 1 + 1], 1)) (.sem (listIt (.obj l) 1)) (.list [f r]) 0).2.1
        rw [ls] at this
        show _ = T 1
        simp only [T, e1]
        exact this
    · have er : rows = [] := by
        cases rows with
        | nil => rfl
        | cons _ _ => simp at hr
      subst er
      rw [List.set_append_left k _ hkl]
      exact done .dead _ _ hs
  · have hT : ∀ p, (T p)[k]? = some (projS W gsc loc0 h l rows b f (m - p) ([σ.length + 1], p)) := fun p => by
      simp only [T, List.append_assoc]
      exact lookup_app (List.getElem?_set_self hkl)
    have HT : ∀ p, HasRows (T p) h l rows := fun p => by
      simp only [T, List.append_assoc]
      exact (H.set (H.ne hk).1 (H.ne hk).2 _).app _
    have gT := fun p => get_tail (σ.set k (projS W gsc loc0 h l rows b f (m - p) ([σ.length + 1], p))) (.list ((rows.take p).map f)) (itemsS W 45 h l rows b (2000 - p) ([σ.length + 1 + 1], p)) (.sem (listIt (.obj l) p))
    simp only [ls] at gT
    have sT := fun (p : Nat) (x : MO) y a b j => set_tail (σ.set k y) a b (.sem (listIt (.obj l) p)) x j
    simp only [ls, List.set_set] at sT
    have st4 := fun (a b c d : MO) (x : MO) j => set_tail (σ.set k a) b c d x j
    simp only [ls, List.set_set] at st4
    have hk' : (T p)[k]? = some (projS W gsc loc0 h l rows b f (m - (p + 1) + 1) ([σ.length + 1], p)) := by rw [show m - (p + 1) + 1 = m - p by omega]; exact hT p
    refine nxt_proj (by omega) F.lim (HT p) hk' (gT p).2.1 (gT p).2.2 hp (by omega) (by omega) (fun r hr => ?_) (fun hr => ?_)
    · have hpl := (List.getElem?_eq_some_iff.mp hr).1
      have e1 : rows.take (p + 1) = rows.take p ++ [r] := by rw [List.take_add_one, hr]; rfl
      have eT : (((T p).set (σ.length + 1 + 1) (.sem (listIt (.obj l) (p + 1)))).set (σ.length + 1) (itemsS W 45 h l rows b (2000 - (p + 1)) ([σ.length + 1 + 1], p + 1))).set k (projS W gsc loc0 h l rows b f (m - (p + 1)) ([σ.length + 1], p + 1)) =
          σ.set k (projS W gsc loc0 h l rows b f (m - (p + 1)) ([σ.length + 1], p + 1)) ++ [.list ((rows.take p).map f)] ++ [itemsS W 45 h l rows b (2000 - (p + 1)) ([σ.length + 1 + 1], p + 1)] ++ [.sem (listIt (.obj l) (p + 1))] := by
        simp only [T]
        rw [(st4 _ _ _ _ _ 0).2.2.2, (st4 _ _ _ _ _ 0).2.2.1, (st4 _ _ _ _ _ k).1 hkl, List.set_set]
      rw [eT]
      have g2 := (get_tail (σ.set k (projS W gsc loc0 h l rows b f (m - (p + 1)) ([σ.length + 1], p + 1))) (.list ((rows.take p).map f)) (itemsS W 45 h l rows b (2000 - (p + 1)) ([σ.length + 1 + 1], p + 1)) (.sem (listIt (.obj l) (p + 1)))).1
      rw [ls] at g2
      refine ⟨_, g2, by rw [List.length_map, List.length_take]; omega, rows.length + 1 - (p + 1), by omega, p + 1, rfl, hpl, .inr ⟨by omega, ?_⟩⟩
      rw [(st4 _ _ _ _ _ 0).2.1]
      simp only [T, e1, List.map_append, List.map_cons, List.map_nil]
    · have e3 : rows.take p = rows := by
        rw [List.getElem?_eq_none_iff] at hr
        exact List.take_of_length_le hr
      have eT : (((T p).set (σ.length + 1 + 1) .dead).set (σ.length + 1) .dead).set k .dead = σ.set k .dead ++ [.list (rows.map f)] ++ [.dead] ++ [.dead] := by
        simp only [T]
        rw [(st4 _ _ _ _ _ 0).2.2.2, (st4 _ _ _ _ _ 0).2.2.1, (st4 _ _ _ _ _ k).1 hkl, List.set_set, e3]
      rw [eT]
      exact done .dead _ _ hs
end
end
section
open PySem PySem.W PySem.W.X PyProof.Rows
def yfCode (it : Value) : Code := .builtin "proto.yield_from" ⟨[it, .bool false, .none], []⟩
def yfRest (it : Value) : Sem Fin := Builtin.Generator.sleptOver it false >>= fun _ => again (yfCode it)
theorem entry_yf : entryFor table "proto.yield_from" = some Builtin.«proto.yield_from» := entryFor_of_fast (by kernel_rfl)
theorem noclose_li : typeLookup (.type "list_iterator") "close" = pure none := by rw [typeLookup_type, builtinLookup_eq_fast]; kernel_rfl
theorem ty_stop : typeOf (.type "StopIteration") = pure (.type "type") := by kernel_rfl

section
variable {W : Wd} {A : Around} {c : Code} {fs : List Frame} {s : Shared} {P : End → Shared → Prop}

theorem s_bind {α : Type} {X : Sem α} {f : α → Sem Fin} (h : wpAny (Mo W) (A.over c fs) X (fun a s' => SegX (Mo W) A c (f a) fs s' P) (fun _ _ => False) s) : SegX (Mo W) A c (X >>= f) fs s P := by
  rw [Sem.bind_eq_wrap']
  exact s_wrap h

theorem wpAny_slept {A : Around} {E : Value → Shared → Prop} {Q : Unit → Shared → Prop} {a : Addr} {o : Obj} {b : Bool} (ho : s.heap.get? a = some o) (hc : (o.cls == .type "generator") = false) (h : Q () s) : wpAny (Mo W) A (Builtin.Generator.sleptOver (.ref a) b) Q E s := by
  unfold Builtin.Generator.sleptOver
  refine wpAny_bind (wpAny_load ho ?_)
  have : (o.cls != Value.type "generator") = true := by simp [bne, hc]
  rw [if_pos this]
  exact wpAny_pure h

theorem stop_raise' {α : Type} {A₁ : Around} {F : Value → Shared → Prop} {Q : α → Shared → Prop} (hh : A₁.handled = none)
    (hF : ∀ h' e, (∀ b o, s.heap.get? b = some o → h'.get? b = some o) → (∃ o vs, h'.get? e = some o ∧ o.cls = .type "StopIteration" ∧ o.data = .fields vs ∧ vs[5]? = some .none) → F (.ref e) { s with heap := h' }) :
    wpAny (Mo W) A₁ (Builtin.SmallTypes.stopIteration : Sem α) Q F s := by
  show wpAny _ _ (newExc (.type "StopIteration") [] >>= _) _ _ _
  refine wpAny_bind ?_
  simp only [newExc, newTuple]
  refine wpAny_bind (wpAny_newObj_type ?_ (by size_fits))
  refine wpAny_bind (m := firstArgMember _ _) (wpAny_of_eq (a := Value.none) (by first | rfl | (simp only [firstArgMember]; rfl)) ?_)
  refine wpAny_newObj_type ?_ (by size_fits)
  simp only [raiseNew]
  refine wpAny_bind (wpAny_handled ?_)
  rw [hh]
  exact wpAny_bind (wpAny_pure (wpAny_throw (hF _ _ (fun b o e => Heap.get?_push_of_some _ (Heap.get?_push_of_some _ e)) ⟨_, _, Heap.get?_push_size _ rfl, rfl, rfl, rfl⟩)))

theorem den_builtin {id : String} {args : Args} {b : Builtin} (hb : entryFor table id = some b) : denote table (.builtin id args) = b args := by
  show (match entryFor table id with | some b => b args | none => unsupported ((withoutEnding? id "#data").getD id)) = _
  rw [hb]
theorem yf_den (it : Addr) : denote table (yfCode (.ref it)) = Builtin.«proto.yield_from» ⟨[.ref it, .bool false, .none], []⟩ := den_builtin entry_yf

theorem s_yf_item {it l : Addr} {i : Nat} {items : Array Value} {x : Value} (hit : s.heap.IsListIter it l i) (hl : s.heap.IsList l items) (hx : items[i]? = some x) (hfs : splitAtGen fs = none) (hfg : fs.any Frame.guarded = false)
    (h : ∀ h', h'.IsListIter it l (i + 1) → Heap.SameBut it s.heap h' → ∀ kont : Resume → Sem Fin, kont (.send .none) = yfRest (.ref it) → ∀ p, P (.susp x false [] kont (yfCode (.ref it)) p fs) { s with heap := h' }) :
    SegX (Mo W) A (yfCode (.ref it)) (denote table (yfCode (.ref it))) fs s P := by
  obtain ⟨o, ho, hc, hd⟩ := id hit
  obtain ⟨ol, hol, _, nl, hdl⟩ := hl
  rw [yf_den]
  show SegX _ A _ (Sem.attempt (holding [.none] (rule "yield-from.next" >>= fun _ => callSpecial? (.ref it) "__next__" >>= _)) >>= _) fs s P
  refine s_bind (wpAny_attempt (wpAny_holding (wpAny_bind (wpAny_rule (wpAny_bind (wpAny_callSpecial?_slot (name := Str.ofString "__next__") hit.typeIs slot_listiter_next
    (wpAny_call_entry slot_listiter_next hit.typeIs entry_listiter_next ?_ (args_listiter_next _))))))))
  show wpAny _ _ (field (.ref it) 0 >>= _) _ _ s
  refine wpAny_bind (wpAny_field ho hd (x := .ref l) rfl ?_)
  show wpAny _ _ (if (Value.ref l == Value.none) = true then _ else _) _ _ s
  rw [if_neg (show ¬ ((Value.ref l == Value.none) = true) from Bool.false_ne_true)]
  show wpAny _ _ (field (.ref it) 1 >>= _) _ _ s
  refine wpAny_bind (wpAny_field ho hd (x := .int i 0) rfl ?_)
  show wpAny _ _ (seqItems? (.ref l) >>= _) _ _ s
  refine wpAny_bind (wpAny_seqItems hol hdl ?_)
  simp only [Int.toNat_natCast, hx]
  refine wpAny_bind (wpAny_setField ho hd (by simp) (wpAny_pure ⟨x, rfl, wpAny_pure ?_⟩))
  have ho' := Heap.get?_update_self (Obj.mapFields (·.setIfInBounds 1 (rawInt (i + 1)))) ho (Obj.isFreed_of_fields (Obj.data_mapFields hd _))
  have hc' : (Obj.mapFields (fun x => x.setIfInBounds 1 (rawInt (↑i + 1))) o).cls = .type "list_iterator" := (Obj.cls_mapFields ..).trans hc
  have hng : ((Obj.mapFields (fun x => x.setIfInBounds 1 (rawInt (↑i + 1))) o).cls == .type "generator") = false := by rw [hc']; rfl
  have hit' : (s.heap.update it (Obj.mapFields (·.setIfInBounds 1 (rawInt (i + 1))))).IsListIter it l (i + 1) := ⟨_, ho', hc', by
    rw [Obj.data_mapFields hd]; simp [rawInt]⟩
  refine s_bind (wpAny_typeOf (T := "list_iterator") ⟨_, ho', hc'⟩ ?_)
  dsimp only
  refine s_bind (wpAny_of_eq noclose_li ?_)
  refine s_bind (wpAny_pure ?_)
  refine s_bind (wpAny_slept ho' hng ?_)
  refine s_yield W.prog W.w A _ fs _ _ x _ _ hfs hfg fun p => h _ hit' (Heap.SameBut.update ..) _ ?_ p
  rfl

theorem wpAny_ends {A : Around} {E : Value → Shared → Prop} {Q : Bool → Shared → Prop} {v : Value} (hT : s.TypeIs v "StopIteration") (h : Q true s) : wpAny (Mo W) A (Builtin.Generator.endsTheTurnAsAValue false v) Q E s := by
  unfold Builtin.Generator.endsTheTurnAsAValue Builtin.Generator.isStopAndMetaclass
  refine wpAny_bind (wpAny_bind (wpAny_typeOf hT ?_))
  dsimp only
  refine wpAny_bind (wpAny_of_eq isSubtype_stop ?_)
  refine wpAny_bind (wpAny_of_eq ty_stop ?_)
  exact wpAny_pure (wpAny_pure h)

theorem s_yf_end {it l : Addr} {i : Nat} {items : Array Value} (hh : (A.over (yfCode (.ref it)) fs).handled = none) (hit : s.heap.IsListIter it l i) (hl : s.heap.IsList l items) (hx : items[i]? = none)
    (h : ∀ h', Kept1 it s.heap h' → SegX (Mo W) A (yfCode (.ref it)) (.pure (.done (.ret .none))) fs { s with heap := h' } P) :
    SegX (Mo W) A (yfCode (.ref it)) (denote table (yfCode (.ref it))) fs s P := by
  obtain ⟨o, ho, hc, hd⟩ := id hit
  obtain ⟨ol, hol, _, nl, hdl⟩ := hl
  rw [yf_den]
  show SegX _ A _ (Sem.attempt (holding [.none] (rule "yield-from.next" >>= fun _ => callSpecial? (.ref it) "__next__" >>= _)) >>= _) fs s P
  refine s_bind (wpAny_attempt (wpAny_holding (wpAny_bind (wpAny_rule (wpAny_bind (wpAny_callSpecial?_slot (name := Str.ofString "__next__") hit.typeIs slot_listiter_next
    (wpAny_call_entry slot_listiter_next hit.typeIs entry_listiter_next ?_ (args_listiter_next _))))))))
  show wpAny _ _ (field (.ref it) 0 >>= _) _ _ s
  refine wpAny_bind (wpAny_field ho hd (x := .ref l) rfl ?_)
  show wpAny _ _ (if (Value.ref l == Value.none) = true then _ else _) _ _ s
  rw [if_neg (show ¬ ((Value.ref l == Value.none) = true) from Bool.false_ne_true)]
  show wpAny _ _ (field (.ref it) 1 >>= _) _ _ s
  refine wpAny_bind (wpAny_field ho hd (x := .int i 0) rfl ?_)
  show wpAny _ _ (seqItems? (.ref l) >>= _) _ _ s
  refine wpAny_bind (wpAny_seqItems hol hdl ?_)
  simp only [Int.toNat_natCast, hx]
  refine wpAny_bind (wpAny_rule (wpAny_bind (wpAny_setField ho hd (by simp) ?_)))
  refine stop_raise' hh fun h' e k hx => ?_
  obtain ⟨oe, vs, hoe, hce, hde, h5⟩ := hx
  refine s_bind (X := Builtin.Generator.endsTheTurnAsAValue false (.ref e)) (wpAny_ends ⟨oe, hoe, hce⟩ ?_)
  show SegX _ A _ (rule "yield-from.value" >>= fun _ => field (.ref e) 5 >>= fun v => ret v) fs _ P
  refine s_bind (wpAny_rule ?_)
  refine s_bind (wpAny_field hoe hde h5 ?_)
  exact h h' ⟨(Heap.SameBut.update ..).extBut.trans fun b o _ e => k b o e, _, k _ _ (Heap.get?_update_self _ ho (Obj.isFreed_of_fields (Obj.data_mapFields hd _))), by rw [Obj.cls_mapFields, hc]; rfl⟩

def yfK (value : Expr) (ypos pos : Pos) (K : Flow → Sem Fin) (H : Value → Sem Fin) : Result → Sem Fin := fun r =>
  Sem.wrap (fun a => Sem.wrap K H id id (dropValue (.YieldFrom value ypos) pos a)) (fun e => Sem.wrap K H id id (Sem.raise e)) (fun g => id (id g)) (fun l => id (id l))
    (Sem.bind (match r with | .ok f => (.pure f : Sem Flow) | .error e => .raise e) fun fl => match fl with | .ret v => pure v | _ => unsupported "internal:call-without-return-value")
theorem yfK_end (value : Expr) (ypos pos : Pos) (K : Flow → Sem Fin) (H : Value → Sem Fin) : yfK value ypos pos K H (.ok (.ret .none)) = K .next := rfl

theorem s_yf_start {value : Expr} {ypos pos : Pos} {env : Env} {K : Flow → Sem Fin} {H : Value → Sem Fin} (hi : interactive env = false)
    (h : wpAny (Mo W) (A.over c fs) (eval value env) (fun x s₁ => ∃ t : Value, (t == .type "coroutine") = false ∧ (∀ A' E' Q', Q' t s₁ → wpAny (Mo W) A' (typeOf x) Q' E' s₁) ∧ wpAny (Mo W) (A.over c fs) (pyIter x) (fun it s₂ => ∀ p, SegX (Mo W) A (yfCode it) (denote table (yfCode it)) (.ret (yfK value ypos pos K H) none false [] c p [] :: fs) s₂ P) (fun _ _ => False) s₁) (fun _ _ => False) s) :
    SegX (Mo W) A c ((exec (.Expr (.YieldFrom value ypos) pos) env).wrap K H id id) fs s P := by
  rw [exec_Expr env _ pos hi rfl]
  refine s_wb (wpAny_standAt ?_)
  rw [show eval (.YieldFrom value ypos) env = (eval value env >>= fun v => (standAt ypos >>= fun _ => yieldFrom env v)) from rfl]
  rw [Sem.bind_eq_wrap', Sem.wrap_wrap]
  refine s_wb (wpAny_mono h (fun x s₁ h₁ => ?_) fun _ _ e => e)
  obtain ⟨t, ht, hT, hI⟩ := h₁
  refine s_wb (wpAny_standAt ?_)
  unfold yieldFrom
  refine s_wb (hT _ _ _ ?_)
  rw [ht]
  refine s_wb (wpAny_holding (wpAny_mono hI (fun it s₂ h₂ => ?_) fun _ _ e => e))
  exact s_call W.prog W.w A c fs P s₂ (yfCode it) none false [] (yfK value ypos pos K H) fun p => h₂ p
end

section
variable {W : Wd} {B : Nat} {env : Env} {gsc : Scope} {L : GSt → Loc} {loc : Loc} {F : GFun} {m : Nat} {c : Code} {fs : List Frame} {σ σ₁ : Hp} {own : Own} {r : Option MV} {st st' : GSt} {K : Flow → Sem Fin} {H : Value → Sem Fin} {j : Nat}

/-- a type that is no coroutine -/
@[irreducible] def TyC (W : Wd) (m : MV) (σ : Hp) : Prop := ∀ c g ρ loc s v, Good W c g ρ loc σ s → VRel g ρ m v → ∃ t : Value, (t == .type "coroutine") = false ∧ ∀ (A : Around) E Q, Q t s → wpAny (Mo W) A (typeOf v) Q E s

theorem OverOk.yf {it : Value} {k : Result → Sem Fin} {p : Pos} (h : OverOk env c fs j) : OverOk env (yfCode it) (.ret k none false [] c p [] :: fs) (j + 1) := by
  refine h.push (c' := yfCode it) ?_ ?_ ?_
  · rfl
  · have e : (yfCode it).frames = 0 := by kernel_rfl
    show 1 + 3 * (yfCode it).frames ≤ 1
    rw [e]; exact Nat.le_refl _
  · rfl

theorem g_yfrom {value : Expr} {ypos pos : Pos} (E : GenEnv env gsc env.locals L) (o : OverOk env c fs j) (hj : j ≤ 9)
    (h : ∀ n, n ≤ B + 1 → EvP W n gsc value loc σ (fun mv σ' => TyC W mv σ' ∧ IterP W n mv σ' (fun k σ'' => ∀ itv p, GP W B env L F m r σ₁ st' (yfCode itv) (denote table (yfCode itv)) (.ret (yfK value ypos pos K H) none false [] c p [] :: fs) loc σ'' ((k, itv) :: own))) NE) :
    GP W B env L F m r σ₁ st' c ((exec (.Expr (.YieldFrom value ypos) pos) env).wrap K H id id) fs loc σ own := by with_unfolding_all exact (fun n A stk kept g₀ ρ₀ s₀ g ρ s hA st₀ G hO => by
  have C := (hA.cok (W := W) E o hj).toCOk
  refine s_yf_start E.inter (wpAny_mono (h (n + 1) (by have := hA.hn; omega) _ g ρ s C (G.at _)) (fun v s' q => ?_) fun x s' q => (XPost.none q).elim)
  obtain ⟨mv, σ', g', ρ', ⟨hT, k⟩, st, G', rv⟩ := q
  obtain ⟨t, ht, hT'⟩ := hT _ _ _ _ _ _ G' rv
  refine ⟨t, ht, hT', wpAny_mono (k _ _ g' ρ' loc s' v _ C G' rv) (fun it s₂ q => ?_) fun _ _ x => x⟩
  obtain ⟨mv', σ₂, g₂, ρ₂, ⟨kk, rfl, hL⟩, st₂, G₂, r₂⟩ := q
  have stt := st.un.trans st₂.un
  intro p
  exact hL it p n A stk kept g₀ ρ₀ s₀ g₂ ρ₂ s₂ hA (st₀.trans stt) G₂.un (fun x hx => by
    rcases List.mem_cons.mp hx with rfl | hx
    · exact r₂
    · exact (hO x hx).mono stt.ge stt.re))

theorem g_yfturn {value : Expr} {ypos pos : Pos} {itv : Value} {k q : Nat} {src : MV} {l : List MV} {p : Pos} (E : GenEnv env gsc env.locals L) (o : OverOk env (yfCode itv) (.ret (yfK value ypos pos K H) none false [] c p [] :: fs) j) (hj : j ≤ 9) (hk : (k, itv) ∈ own)
    (hit : σ[k]? = some (.sem (listIt src q))) (hl : asList σ src = some l)
    (hs : ∀ m, l[q]? = some m → r = some m ∧ σ₁ = σ.set k (.sem (listIt src (q + 1))))
    (he : l[q]? = none → GP W B env L F m r σ₁ st' c (K .next) fs loc (σ.set k .dead) own)
    (hsub : SubL (L st') loc) (hown : ∀ m, l[q]? = some m → ∀ x ∈ own, x.1 ∈ st'.1)
    (tail : GT W B env L F m st' own (yfCode itv) (yfRest itv) (.ret (yfK value ypos pos K H) none false [] c p [] :: fs)) :
    GP W B env L F m r σ₁ st' (yfCode itv) (denote table (yfCode itv)) (.ret (yfK value ypos pos K H) none false [] c p [] :: fs) loc σ own := by with_unfolding_all exact (fun n A stk kept g₀ ρ₀ s₀ g ρ s hA st₀ G hO => by
  obtain ⟨⟨a, a2⟩, hp, rfl, e2, ob, ho, la, hr, hcl, hd⟩ := sem_at G hit (hO _ hk)
  cases e2
  obtain ⟨la', vs, n', e3, hla, hvs⟩ := list_at G hl hr
  cases e3
  have hit' : s.heap.IsListIter a la q := ⟨ob, ho, hcl, hd⟩
  cases hm : l[q]? with
  | none =>
    have hx : vs.toArray[q]? = none := by
      rw [List.getElem?_toArray, List.getElem?_eq_none_iff]
      rw [← hvs.length]; exact List.getElem?_eq_none_iff.mp hm
    refine s_yf_end (o.hd A hA.hd) hit' (isList_of hla) hx fun h' Kp => ?_
    obtain ⟨o', ho', hg'⟩ := Kp.2
    obtain ⟨G', st⟩ := G.upd1 (o' := .dead) (t := s.toks) hp Kp.1 (.dead ⟨o', ho'⟩ ⟨o', ho'⟩) (nogen_of ho' hg')
    refine s_pop W.prog W.w A _ fs _ _ (.ok (.ret .none)) _ rfl _ _ _ _ c p [] ?_
    rw [yfK_end]
    exact he hm n A stk kept g₀ ρ₀ s₀ g ρ _ hA (st₀.trans st) G' (fun x hx => hO x hx)
  | some mv =>
    obtain ⟨x, hx, rx⟩ := hvs.get hm
    have hx' : vs.toArray[q]? = some x := by rw [List.getElem?_toArray]; exact hx
    obtain ⟨rfl, rfl⟩ := hs mv hm
    refine s_yf_item hit' (isList_of hla) hx' o.sp o.gd fun h' hit'' hs' kont hkont pp => ?_
    obtain ⟨o', ho', hc', hd'⟩ := id hit''
    obtain ⟨G', st⟩ := G.upd1 (o' := .sem (listIt src (q + 1))) (t := s.toks) hp hs'.extBut (.sem ⟨rfl, o', ho', la, hr, hc', hd'⟩) (nogen_of ho' (by rw [hc']; rfl))
    exact ⟨g, ρ, st₀.trans st, G'.weaken hsub, mv, rfl, rx, own, fun x hx => ⟨hown mv hm x hx, hO x hx⟩, gspec_susp (by rw [hkont]; exact tail)⟩)

theorem g_yfrest {itv : Value} {k q : Nat} {src : MV} {fs : List Frame} (hk : (k, itv) ∈ own) (hit : σ[k]? = some (.sem (listIt src q)))
    (h : GP W B env L F m r σ₁ st' (yfCode itv) (denote table (yfCode itv)) fs loc σ own) : GP W B env L F m r σ₁ st' (yfCode itv) (yfRest itv) fs loc σ own := by with_unfolding_all exact (fun n A stk kept g₀ ρ₀ s₀ g ρ s hA st₀ G hO => by
  obtain ⟨⟨a, a2⟩, hp, rfl, e2, ob, ho, la, hr, hcl, hd⟩ := sem_at G hit (hO _ hk)
  cases e2
  refine s_bind (wpAny_slept ho (by rw [hcl]; rfl) ?_)
  exact s_again W.prog W.w A _ fs _ s (yfCode (.ref a)) (Code.quiet_builtin _ (by decide +kernel)) (h n A stk kept g₀ ρ₀ s₀ g ρ s hA st₀ G hO))
end
end
section
open PySem PySem.W PyProof.Rows PySem.W.X
section
variable {W : Wd} {Kf : Frag} {σ : Hp} {n : Nat} {K : MV → Hp → Prop} {KE : Xc → Hp → Prop}

theorem tyc_list {m : MV} {l : List MV} (h : asList σ m = some l) : TyC W m σ := by with_unfolding_all exact (fun c g ρ loc s v G r => by
  obtain ⟨a, vs, n', rfl, ha, hvs⟩ := list_at G h r
  exact ⟨.type "list", rfl, fun A E Q q => wpAny_typeOf (T := "list") ⟨_, ha, rfl⟩ q⟩)
theorem tyc_inst (F : Sf W Kf) {k l : Nat} (hm : σ[k]? = some (.inst (some l))) : TyC W (.obj k) σ := by with_unfolding_all exact (fun c g ρ loc s v G r => by
  have S := spAt F G hm r (x := "__iter__") (f := 415) (by decide)
  obtain ⟨⟨a, od, rfl, d, I⟩, X, hs, hf⟩ := S
  exact ⟨.ref hdrCls, rfl, fun A E Q h => (I.type.here h)⟩)
theorem asList_app {m : MV} {l : List MV} (h : asList σ m = some l) (ext : Hp) : asList (σ ++ ext) m = some l := by
  cases m with
  | lst x => exact h
  | obj k =>
    simp only [asList] at h ⊢
    split at h
    · rename_i x e
      rw [lookup_app e]; exact h
    · cases h
  | _ => cases h
end
section
variable {W : Wd} {Kf : Frag} {σ : Hp} {n : Nat} {K : MV → Hp → Prop} {KE : Xc → Hp → Prop}

open Classical in
/-- what iter_multi_items() of a list, or of a Headers, does at each wake -/
noncomputable def multiF (R : Hp → Prop) (src : MV) (items : List MV) : GFun := fun st σ => match st with
  | ([], 0) => if R σ then some (match items[0]? with
      | some r => (some r, fun σ => σ ++ [.sem (listIt src 1)], ([σ.length], 1))
      | none => (none, fun σ => σ ++ [.dead], ([σ.length], 1))) else none
  | ([it], p) => if asList σ src = some items ∧ σ[it]? = some (.sem (listIt src p)) then some (match items[p]? with
      | some r => (some r, fun σ => σ.set it (.sem (listIt src (p + 1))), ([it], p + 1))
      | none => (none, fun σ => σ.set it .dead, ([it], p + 1))) else none
  | _ => none

open Classical in
theorem multiF_at {R : Hp → Prop} {src : MV} {items : List MV} {it p : Nat} {τ : Hp} (h1 : asList τ src = some items) (hit : τ[it]? = some (.sem (listIt src p))) : multiF R src items ([it], p) τ = some (match items[p]? with
      | some r => (some r, fun σ : Hp => σ.set it (MO.sem (listIt src (p + 1))), (([it], p + 1) : GSt))
      | none => (none, fun σ => σ.set it MO.dead, ([it], p + 1))) := by
  simp only [multiF]
  rw [if_pos ⟨h1, hit⟩]
open Classical in
theorem multiF_at0 {R : Hp → Prop} {src : MV} {items : List MV} {τ : Hp} (h : R τ) : multiF R src items ([], 0) τ = some (match items[0]? with
      | some r => (some r, fun σ : Hp => σ ++ [MO.sem (listIt src 1)], (([τ.length], 1) : GSt))
      | none => (none, fun σ => σ ++ [MO.dead], ([τ.length], 1))) := by
  simp only [multiF]
  rw [if_pos h]

abbrev kk (env : Env) (K : Flow → Sem Fin) (H : Value → Sem Fin) : Flow → Sem Fin := fun f => match f with | .next => (execs [] env).wrap K H id id | f => K f
def mLc (mp : MV) : Loc := [("mapping", mp)]
abbrev mLoc (mp : MV) : GSt → Loc := fun _ => mLc mp
/-- the frames beneath its `yield from` -/
def mFs (env : Env) (value : Expr) (ypos pos p' : Pos) : List Frame := [.ret (yfK value ypos pos (kk env (kk env (kk env funK (funH env)) (funH env)) (funH env)) (funH env)) none false [] (.func (bodyOf (topStmt 8)) env) p' []]

theorem multi_turn {B m : Nat} {env : Env} {mp src : MV} {items : List MV} {F' : GFun} (E : GenEnv env (scopeOf (topStmt 8)) env.locals (mLoc mp)) {itv : Value} {it p : Nat} {value : Expr} {ypos pos p' : Pos} {r : Option MV} {σ σ₁ : Hp} {st' : GSt}
    (h1 : asList σ src = some items) (hit : σ[it]? = some (.sem (listIt src p)))
    (hs : ∀ m, items[p]? = some m → r = some m ∧ σ₁ = σ.set it (.sem (listIt src (p + 1))) ∧ it ∈ st'.1) (he : items[p]? = none → r = none ∧ σ₁ = σ.set it .dead)
    (tail : GT W B env (mLoc mp) F' m st' [(it, itv)] (yfCode itv) (yfRest itv) (mFs env value ypos pos p')) :
    GP W B env (mLoc mp) F' m r σ₁ st' (yfCode itv) (denote table (yfCode itv)) (mFs env value ypos pos p') (mLc mp) σ [(it, itv)] := by
  refine g_yfturn (j := 1) E (OverOk.func.yf) (by omega) (.head _) hit h1 (fun m hm => ⟨(hs m hm).1, (hs m hm).2.1⟩) (fun hm => ?_) (SubL.refl _) (fun m hm x hx => ?_) tail
  · obtain ⟨rfl, rfl⟩ := he hm
    refine g_nil ?_
    refine g_nil ?_
    refine g_nil ?_
    exact g_end rfl rfl (SubL.refl _)
  · simp at hx; subst hx; exact (hs m hm).2.2

open Classical in
theorem multi_tail {B : Nat} {env : Env} {R : Hp → Prop} {mp src : MV} {items : List MV} (E : GenEnv env (scopeOf (topStmt 8)) env.locals (mLoc mp)) {itv : Value} {it : Nat} {value : Expr} {ypos pos p' : Pos} :
    ∀ (m p : Nat), 0 < p → GT W B env (mLoc mp) (multiF R src items) m ([it], p) [(it, itv)] (yfCode itv) (yfRest itv) (mFs env value ypos pos p')
  | 0, p, _ => trivial
  | m + 1, p, hp => by
    intro hown σ r upd st' hF
    have ih := multi_tail (B := B) (R := R) (src := src) (items := items) E (itv := itv) (it := it) (value := value) (ypos := ypos) (pos := pos) (p' := p') m (p + 1) (by omega)
    simp only [multiF] at hF
    split at hF
    · rename_i hc
      obtain ⟨h1, hit⟩ := hc
      refine g_yfrest (.head _) hit ?_
      cases hr : items[p]? with
      | some row =>
        rw [hr] at hF
        cases hF
        exact multi_turn E h1 hit (fun r' hr' => by rw [hr] at hr'; cases hr'; exact ⟨rfl, rfl, .head _⟩) (fun q => by rw [hr] at q; cases q) ih
      | none =>
        rw [hr] at hF
        cases hF
        exact multi_turn E h1 hit (fun r' hr' => by rw [hr] at hr'; cases hr') (fun _ => ⟨rfl, rfl⟩) ih
    · cases hF

structure Src (W : Wd) (B : Nat) (R : Hp → Prop) (mp src : MV) (items : List MV) : Prop where
  as : ∀ σ, R σ → asList σ src = some items
  ty : ∀ σ, R σ → TyC W mp σ
  it : ∀ n, n ≤ B + 1 → ∀ σ K, R σ → K σ.length (σ ++ [.sem (listIt src 0)]) → IterP W n mp σ K
  tm : ∀ σ, R σ → ∃ t, typM σ mp = some t ∧ t ∈ isiTs ∧ (t == .type "dict") = false

open Classical in
theorem multi_fresh (F : Pr W Kf) {B : Nat} {R : Hp → Prop} {mp src : MV} {items : List MV} {env : Env} (E : GenEnv env (scopeOf (topStmt 8)) env.locals (mLoc mp)) (S : Src W B R mp src items) (m : Nat) :
    GSpec W B env (mLoc mp) (multiF R src items) m ([], 0) [] (.fresh (.func (bodyOf (topStmt 8)) env)) := by
  cases m with
  | zero => trivial
  | succ m =>
  have FX := F.toSx
  refine gspec_fresh ?_
  intro hown σ r upd st' hF
  simp only [multiF] at hF
  split at hF
  · rename_i hR
    obtain ⟨t, ht, htT, htd⟩ := S.tm σ hR
    have h1 := S.as σ hR
    refine g_start ?_
    refine g_cons ?_
    refine g_if (j := 0) E OverOk.func (by omega) fun n hn => ?_
    walk_at "mv"
    refine ⟨_, rfl, by walk_at "mv_keep", ?_⟩
    refine evs_cons ?_ (fun _ => rfl)
    refine ev_local (m := mp) rfl rfl rfl ?_
    walk_at "mv"
    have hmd : (t == Value.ref 278) = false := by
      simp only [isiTs, List.mem_cons, List.mem_nil_iff, or_false] at htT
      rcases htT with rfl | rfl | rfl | rfl | rfl | rfl <;> rfl
    refine call_isi (b := false) FX ht htT (by simp [isiCs]) hmd ?_
    refine tst_bool ?_
    rw [if_neg (by decide)]
    refine g_cons ?_
    refine g_if (j := 0) E OverOk.func (by omega) fun n hn => ?_
    walk_at "mv"
    refine ⟨_, rfl, by walk_at "mv_keep", ?_⟩
    refine evs_cons ?_ (fun _ => rfl)
    refine ev_local (m := mp) rfl rfl rfl ?_
    walk_at "mv"
    refine call_isi (b := false) FX ht htT (by simp [isiCs]) htd ?_
    refine tst_bool ?_
    rw [if_neg (by decide)]
    refine g_cons ?_
    refine g_yfrom (j := 0) E OverOk.func (by omega) fun n hn => ?_
    refine ev_local (m := mp) rfl rfl rfl ?_
    refine ⟨S.ty σ hR, S.it n hn σ _ hR fun itv p => ?_⟩
    refine multi_turn (it := σ.length) (p := 0) E (asList_app h1 _) (lookup_last _ _) (fun r' hr' => ?_) (fun hr' => ?_) ?_
    · rw [hr'] at hF; cases hF
      exact ⟨rfl, by rw [set_last], .head _⟩
    · rw [hr'] at hF; cases hF
      exact ⟨rfl, by rw [set_last]⟩
    · have : st' = ([σ.length], 1) := by
        cases hr : items[0]? with
        | some row => rw [hr] at hF; cases hF; rfl
        | none => rw [hr] at hF; cases hF; rfl
      rw [this]
      exact multi_tail E m 1 (by omega)
  · cases hF

noncomputable abbrev multiS (W : Wd) (B : Nat) (R : Hp → Prop) (mp src : MV) (items : List MV) (m : Nat) (st : GSt) : MO := .sem (genS W B (scopeOf (topStmt 8)) (mLoc mp) (multiF R src items) m st)

theorem c_multi (F : Pr W Kf) (hn : n ≤ 45) (B m : Nat) {R : Hp → Prop} {mp src : MV} {items : List MV} (S : Src W B R mp src items)
    (hs : K (.obj σ.length) (σ ++ [multiS W B R mp src items m ([], 0)])) : CallM W n (.ref 81) [mp] [] σ K KE := by
  refine call_cd (by omega) ?_
  obtain ⟨r, D⟩ := F.f81
  refine gen_call0 (body := bodyOf (topStmt 8)) (B := B) (F := multiF R src items) (m := m) (st0 := ([], 0)) D F.lim (by omega) rfl ⟨rfl, rfl, rfl⟩ rfl ?_
  refine bd_pos (ps := ["mapping"]) (fun vs hv => ?_) rfl ?_
  · match vs, hv with
    | [a], _ => rfl
  refine ⟨⟨⟨(by decide : (["mapping"] : List Str).Nodup), fun x hx => ?_⟩, fun env E => multi_fresh F E S m⟩, hs⟩
  simp only [List.zip_cons_cons, List.mem_cons, List.zip_nil_left] at hx
  rcases hx with rfl | hx
  · rfl
  · cases hx
end
end
section
open PySem PySem.W PyProof.Rows
/-- what a dict of the law may hold -/
inductive DV where
  | s (x : Str)
  | l (xs : List Str)
def DV.mv : DV → MV
  | .s x => .str x
  | .l xs => .lst (strsM xs)

inductive DVal (g : Heap) : DV → Value → Prop
  | s (x t) : DVal g (.s x) (.str x t)
  | l {a vs n xs} : g.get? a = some (lstObj vs n) → StrsAre vs xs → DVal g (.l xs) (.ref a)
inductive KVal (g : Heap) : List (Str × DV) → List (Str × Value) → Prop
  | nil : KVal g [] []
  | cons {k d v l kvs} : DVal g d v → KVal g l kvs → KVal g ((k, d) :: l) ((k, v) :: kvs)
theorem DVal.mono {g g' : Heap} (h : g.StaysIn g') {d : DV} {v : Value} (x : DVal g d v) : DVal g' d v := by
  cases x with
  | s x t => exact .s x t
  | l e q => exact .l (h _ _ e) q
theorem KVal.mono {g g' : Heap} (h : g.StaysIn g') : ∀ {l kvs}, KVal g l kvs → KVal g' l kvs
  | _, _, .nil => .nil
  | _, _, .cons d q => .cons (d.mono h) (q.mono h)
theorem KVal.get {g : Heap} : ∀ {l : List (Str × DV)} {kvs : List (Str × Value)}, KVal g l kvs → ∀ {i : Nat} {k : Str} {d : DV}, l[i]? = some (k, d) → ∃ v, kvs[i]? = some (k, v) ∧ DVal g d v
  | _, _, .cons d q, 0, _, _, e => by cases e; exact ⟨_, rfl, d⟩
  | _, _, .cons d q, i + 1, _, _, e => q.get (i := i) (by simpa using e)
theorem KVal.length {g : Heap} : ∀ {l kvs}, KVal g l kvs → l.length = kvs.length
  | _, _, .nil => rfl
  | _, _, .cons _ q => by simp [q.length]
theorem VRels.ofStrs {g : Heap} {ρ : Rho} : ∀ {vs xs}, StrsAre vs xs → VRels g ρ (strsM xs) vs
  | _, _, .nil => .nil
  | _, _, .cons y t q => .cons (.str y t) (VRels.ofStrs q)
theorem DVal.rel {g : Heap} {ρ : Rho} {d : DV} {v : Value} (x : DVal g d v) : VRel g ρ d.mv v := by
  cases x with
  | s x t => exact .str x t
  | l e q => exact .lst e (VRels.ofStrs q)
theorem DVal.of {g : Heap} {ρ : Rho} {d : DV} {v : Value} (r : VRel g ρ d.mv v) : DVal g d v := by
  cases d with
  | s x => cases r; exact .s _ _
  | l xs => cases r with | lst e q => exact .l e (strsAre_of q)
theorem DV.ok (d : DV) (k : Nat) : d.mv.ok k = true := by
  cases d with
  | s x => rfl
  | l xs => simp only [DV.mv, MV.ok]; exact strsM_ok _ _

abbrev SK (W : Wd) : KeyKind W.prog W.w Str := strKind W.prog W.w
structure DicAt (W : Wd) (g : Heap) (l : List (Str × DV)) (a : Addr) (kvs : List (Str × Value)) (ep : Nat) : Prop where
  ne : (a == sysModules) = false
  at_ : g.DictAt (SK W) a kvs ep
  kv : KVal g l kvs
theorem DicAt.mono {W : Wd} {g g' : Heap} (h : g.StaysIn g') {l a kvs ep} (x : DicAt W g l a kvs ep) : DicAt W g' l a kvs ep := ⟨x.ne, x.at_.keep h, x.kv.mono h⟩
/-- a dict with text keys -/
def dicF (W : Wd) (l : List (Str × DV)) : FzObj := ⟨fun g v => ∃ a kvs ep, v = .ref a ∧ DicAt W g l a kvs ep, fun k ⟨a, kvs, ep, e, h⟩ => ⟨a, kvs, ep, e, h.mono k⟩⟩
/-- its items() -/
def dviF (W : Wd) (l : List (Str × DV)) : FzObj := ⟨fun g v => ∃ b a kvs ep, v = .ref b ∧ g.IsItemsView b a ∧ DicAt W g l a kvs ep, fun k ⟨b, a, kvs, ep, e, ⟨o, h, r⟩, q⟩ => ⟨b, a, kvs, ep, e, ⟨o, k _ _ h, r⟩, q.mono k⟩⟩
/-- an iterator over them -/
def dicIt (W : Wd) (l : List (Str × DV)) (p : Nat) : SemObj := objSem (fun _ => true) (fun g ρ o => ∃ a kvs ep ok ov, DicAt W g l a kvs ep ∧ o = { cls := .type "dict_itemiterator", dict := none, data := .fields #[.none, .bool false, .ref a, .int p 0, .int kvs.length 0, .int ep 0, ok, ov], slots := #[] })
  (fun k _ ⟨a, kvs, ep, ok, ov, h, e⟩ => ⟨a, kvs, ep, ok, ov, h.mono k, e⟩) (fun _ h => h)

section
variable {W : Wd} {Kf : Frag} {c : Cx} {g g₁ : Heap} {ρ ρ₁ : Rho} {loc loc' : Loc} {σ σ' : Hp} {s s₁ : Shared} {n : Nat} {sc scope : Scope}
variable {K : MV → Hp → Prop} {KE : Xc → Hp → Prop}

theorem dic_at (G : Good W c g ρ loc σ s) {l : List (Str × DV)} {v : Value} (r : VRel g ρ (.fz (dicF W l)) v) : ∃ a kvs ep, v = .ref a ∧ DicAt W g l a kvs ep ∧ DicAt W s.heap l a kvs ep := by
  cases r with
  | fz h => obtain ⟨a, kvs, ep, e, q⟩ := h; exact ⟨a, kvs, ep, e, q, q.mono G.gh⟩

theorem call_isi_d (F : Sx W Kf) {l : List (Str × DV)} {cv : Value} {b : Bool} (hC : cv ∈ isiCs) (hb : (Value.type "dict" == cv) = b) (h : K (.bool b) σ) : CallM W n (.builtin "isinstance") [.fz (dicF W l), .stat cv] [] σ K KE := by with_unfolding_all exact (fun sc c g ρ loc s vs kvs C G r kr => by
  cases kr
  cases r with | cons r₁ r₂ =>
  cases r₂ with | cons r₂ r₃ =>
  cases r₃; cases r₂
  obtain ⟨a, kvs, ep, rfl, D, D'⟩ := dic_at G r₁
  have hT : s.TypeIs (.ref a) "dict" := D'.at_.dictOf.typeIs
  obtain ⟨o, ho, hc⟩ := hT
  have e := F.isi (.type "dict") (by simp [isiTs]) cv hC
  rw [hb] at e
  exact kia_one (kitx_dict (a := a)) (Frag.In.keeps F.inK G.baseIn) ⟨o, ho, hc⟩ e (by intro q; cases q) fun tk => Post.nowT G (.bool _) h)

theorem call_isi_dtup (F : Sx W Kf) {l : List (Str × DV)} {cs : List Value} {b : Bool} (hC : ∀ c ∈ cs, c ∈ isiCs) (hb : cs.any (Value.type "dict" == ·) = b) (h : K (.bool b) σ) : CallM W n (.builtin "isinstance") [.fz (dicF W l), .tup (cs.map .stat)] [] σ K KE := by with_unfolding_all exact (fun sc c g ρ loc s vs kvs C G r kr => by
  cases kr
  cases r with | cons r₁ r₂ =>
  cases r₂ with | cons r₂ r₃ =>
  cases r₃
  obtain ⟨a, vs, n', rfl, ha, hvs⟩ := tup_at G r₂
  obtain ⟨d, kvs, ep, rfl, D, D'⟩ := dic_at G r₁
  obtain ⟨o, ho, hc⟩ : s.TypeIs (.ref d) "dict" := D'.at_.dictOf.typeIs
  have hvs' : vs = cs := by
    clear hC hb ha r₂
    induction cs generalizing vs with
    | nil => cases hvs; rfl
    | cons cv cs ih => cases hvs with | cons h hs => cases h; rw [ih _ hs]
  subst hvs'
  have e := kitAny_of F (t := .type "dict") (by simp [isiTs]) hC
  rw [hb] at e
  exact kia_tup (kitx_dict (a := d)) (Frag.In.keeps F.inK G.baseIn) ⟨o, ho, hc⟩ ha e (by intro q; cases q) fun tk => Post.nowT G (.bool _) h)
theorem op_isnot_none_d {l : List (Str × DV)} (h : K (.bool true) σ) : Op2 W n (compareOp .IsNot) (.fz (dicF W l)) .none σ K KE := by with_unfolding_all exact (fun sc c g ρ loc s v₁ v₂ C G r₁ r₂ => by
  cases r₂
  obtain ⟨a, kvs, ep, rfl, D, D'⟩ := dic_at G r₁
  exact wpAny_isNot_plain rfl (Post.now G (.bool _) h))

theorem getM_dict {l : List (Str × DV)} : GetM W (.fz (dicF W l)) (Str.ofString "items") σ (.builtin "dict.items") := by with_unfolding_all exact (fun n sc c g ρ loc s v pl C G r A E Q h => by
  obtain ⟨a, kvs, ep, rfl, D, D'⟩ := dic_at G r
  exact getMethod_builtin D'.at_.dictOf.typeIs PySem.F.plainAttrs_dict PySem.F.slot_dict_items PySem.F.type_dict_items D'.at_.dictOf.mapOf.noDict h)

theorem call_items {l : List (Str × DV)} (h : K (.fz (dviF W l)) σ) : CallM W n (.builtin "dict.items") [.fz (dicF W l)] [] σ K KE := by with_unfolding_all exact (fun sc c g ρ loc s vs kvs C G r kr => by
  cases kr
  cases r with | cons r₁ r₂ =>
  cases r₂
  obtain ⟨a, kvs, ep, rfl, D, D'⟩ := dic_at G r₁
  refine call_meetsIn PySem.F.slot_dict_items D'.at_.dictOf.typeIs PySem.F.entry_dict_items (PySem.F.args_dict_items_1 _) (meets_dict_items (SK W) a D.ne) ⟨⟨kvs, D'.at_.dictOf⟩, ?_⟩
  obtain ⟨G', st, e⟩ := G.alloc (o := { cls := .type "dict_items", data := .fields #[.ref a] }) rfl (t := s.toks)
  exact ⟨_, σ, _, ρ, h, st, G', .fz ⟨_, a, kvs, ep, rfl, ⟨_, e, rfl, rfl⟩, D.mono st.ge⟩⟩)

theorem iter_items {l : List (Str × DV)} {K : Nat → Hp → Prop} (h : K σ.length (σ ++ [.sem (dicIt W l 0)])) : IterP W n (.fz (dviF W l)) σ K := by with_unfolding_all exact (fun sc c g ρ loc s v E C G r => by
  cases r with
  | fz hr =>
  obtain ⟨b, a, kvs, ep, rfl, ⟨o, hv, hr⟩, D⟩ := hr
  refine wpAny_pyIter_items (knd := SK W) (kvs := kvs) (ep := ep) ⟨o, G.gh _ _ hv, hr⟩ (D.mono G.gh).at_ ?_
  exact newHandle G (x := dicIt W l 0) (o := { cls := .type "dict_itemiterator", data := .fields #[.none, .bool false, .ref a, .int 0 0, .int kvs.length 0, .int ep 0, .none, .none] }) rfl rfl (t := s.toks) (fun h' x e => ⟨rfl, _, e, a, kvs, ep, _, _, D, rfl⟩) h)

theorem dict_end {A : Around} {E : Value → Shared → Prop} {it d : Addr} {i ep : Nat} {kvs : List (Str × Value)} {ok ov : Value} {Q : Option Value → Shared → Prop} (hh : A.handled = none) (hit : IsItemIter s.heap it d i kvs.length ep ok ov)
    (hm : s.heap.DictAt (SK W) d kvs ep) (hx : kvs[i]? = none)
    (hQ : ∀ h', Kept1 it s.heap h' → Q none { s with heap := h' }) : wpAny (Mo W) A (pyNext (.ref it)) Q E s := by
  obtain ⟨od, es, hod, hcd, hdd, hk, hpr, hn⟩ := id hm
  have hsz : es.size = kvs.length := by rw [← hpr.length]; simp
  have hge : es.size ≤ i := by rw [hsz]; simpa using hx
  have hT : s.TypeIs (.ref it) "dict_itemiterator" := ⟨_, hit, rfl⟩
  unfold pyNext
  refine wpAny_bind (wpAny_attempt (wpAny_callSpecial?_slot (name := Str.ofString "__next__") hT PySem.F.slot_dict_itemiterator_next
    (wpAny_call_entry PySem.F.slot_dict_itemiterator_next hT PySem.F.entry_dict_itemiterator_next ?_ (PySem.F.args_dict_itemiterator_next_1 _))))
  refine wpAny_bind (wpAny_pure ?_)
  refine wpAny_bind (wpAny_bind (wpAny_bind (wpAny_typeNameOfWhole_itemiter hT (wpAny_pure ?_))))
  refine wpAny_bind (wpAny_fieldsOf hit rfl ?_)
  simp only [show Builtin.Dict_items.ownsTuple "dict_itemiterator" = true by decide, if_true]
  show wpAny _ _ (if (Value.ref d == Value.none) = true then _ else _) _ _ s
  rw [if_neg (show ¬ ((Value.ref d == Value.none) = true) from Bool.false_ne_true)]
  refine wpAny_bind (wpAny_pure ?_)
  refine wpAny_bind (wpAny_dictEntries hod hdd ?_)
  rw [if_neg (by rw [hsz]; simp)]
  refine wpAny_bind (wpAny_pure ?_)
  refine wpAny_bind (wpAny_dictEpoch hod hdd ?_)
  rw [if_neg (by simp)]
  refine wpAny_pure ?_
  simp only [show ¬ ((i : Int) < 0) from by omega, if_false, Int.toNat_natCast, Array.getElem?_eq_none hge]
  refine wpAny_bind (wpAny_bind (wpAny_typeNameOfWhole_itemiter hT (wpAny_pure ?_)))
  show wpAny _ _ (setField (.ref it) 2 .none >>= _) _ _ s
  refine wpAny_bind (wpAny_setField hit rfl (by simp) ?_)
  refine wpAny_mono (stop_tail (A := A) (E := E) (Q := Q) hh fun h' k => hQ h' ⟨(Heap.SameBut.update ..).extBut.trans fun b o _ e => k b o e, ?_⟩) (fun _ _ x => x.elim) fun _ _ x => x
  exact ⟨_, k _ _ (Heap.get?_update_self _ hit rfl), rfl⟩

theorem nxt_dict {t : Expr} {elts : List Expr} {x1} {tp : Pos} (ht : t = .Tuple elts x1 tp) {k p : Nat} {l : List (Str × DV)} {KS : MV → Hp → Prop} {KN : Hp → Prop} (hn : n < 1000) (hk : σ[k]? = some (.sem (dicIt W l p)))
    (hs : ∀ x d, l[p]? = some (x, d) → KS (.tup [.str x, d.mv]) (σ.set k (.sem (dicIt W l (p + 1))))) (he : l[p]? = none → KN (σ.set k .dead)) : NxtP W n t k σ KS KN := by with_unfolding_all exact (fun sc c g ρ loc s v E C G r => by
  subst ht
  obtain ⟨⟨a, a2⟩, hp, rfl, e2, o, ho, d, kvs, ep, ok, ov, D, rfl⟩ := sem_at G hk r
  cases e2
  have D' := D.mono G.gh
  have fr : s.heap.get? s.heap.objs.size = none := Heap.get?_none_of_le (Nat.le_refl _)
  cases hm : l[p]? with
  | none =>
    have hx : kvs[p]? = none := by rw [List.getElem?_eq_none_iff] at hm ⊢; rw [← D.kv.length]; exact hm
    refine dict_end (C.hd hn) ho D'.at_ hx fun h' Kp => ?_
    obtain ⟨o', ho', hg'⟩ := Kp.2
    obtain ⟨G', st⟩ := G.upd1 (o' := .dead) (t := s.toks) hp Kp.1 (.dead ⟨o', ho'⟩ ⟨o', ho'⟩) (nogen_of ho' hg')
    exact ⟨_, g, ρ, he hm, st, G'⟩
  | some y =>
    obtain ⟨x, dv⟩ := y
    obtain ⟨v, hv, hd⟩ := D.kv.get hm
    refine wpAny_pyNext_items_item (knd := SK W) ho D'.at_ hv fun key h₁ hkey heo ht₁ hz₁ hk₁ => ?_
    refine wpAny_letOwnedTupleGo_items heo fun h₂ he₂ hs₂ => ?_
    replace hs₂ : Heap.SameBut a h₁ h₂ := hs₂
    have lta : a < s.heap.objs.size := Heap.lt_size ho
    obtain ⟨tk, rfl⟩ := Value.isStrOf_shape hkey
    have ht₂ : h₂.get? s.heap.objs.size = some (tupObj [.str x tk, v] 0) := (hs₂.2 _ (Nat.ne_of_gt lta)).trans ht₁
    have ext : Heap.ExtBut a s.heap h₂ := fun b o hb e => (hs₂.2 b hb).trans (hk₁ b o hb e)
    obtain ⟨G', st⟩ := G.upd1 (o' := .sem (dicIt W l (p + 1))) (t := s.toks) hp ext (.sem ⟨rfl, _, he₂, d, kvs, ep, _, _, D, rfl⟩) (nogen_of he₂ rfl)
    obtain ⟨G'', st'', e'', le''⟩ := G'.freeze st (fun b o e _ q => by rw [q, fr] at e; cases e) (G.fresh fr) ht₂
    exact ⟨_, _, _, ρ, hs x dv hm, st'', G'', .tup e'' (.cons (.str _ _) (.cons ((hd.mono le'').rel) .nil))⟩)

theorem size_ne (F : Sx W Kf) (G : Good W c g ρ loc σ s) : (s.heap.objs.size == sysModules) = false := by
  obtain ⟨nm, q, N, bs, hdct, sn, sub, ab, col, dd, k0, k1, k2, k3, k5, mN, h, _⟩ := F.bad
  have := Heap.lt_size (G.baseIn _ _ h)
  have e : sysModules = 1 := rfl
  rw [e]
  exact beq_false_of_ne (fun q => by rw [q] at this; exact absurd this (by decide))

/-- defaults, and `**kwargs` empty -/
theorem bd_dkw (F : Sx W Kf) {fd : FuncData} {ms : List MV} {ps : List Str} {K : Loc → Hp → Prop} {T : Addr} {dvs : List Value} {n0 : Nat} (hd : fd.defaults = .ref T) (hT : W.base.get? T = some (tupObj dvs n0)) (more : List (MV × Value))
    (hv : ∀ x ∈ more, ∀ g ρ, VRel g ρ x.1 x.2)
    (hb : ∀ vs : List Value, vs.length = ms.length → ∃ k : Option (Array Value) → Sem (List (Str × Value)), bindArgs fd ⟨vs, []⟩ = seqItems? fd.defaults >>= k ∧ k (some dvs.toArray) = (alloc { cls := .type "dict", data := .dict #[] } >>= fun d => pure (ps.zip (vs ++ more.map (·.2) ++ [.ref d]))))
    (hl : ps.length = ms.length + more.length + 1) (h : K (ps.zip (ms ++ more.map (·.1) ++ [.fz (dicF W [])])) σ) :
    BdP W n fd ms [] σ K := by with_unfolding_all exact (fun sc c g ρ loc s vs kvs A C G r kr N E => by
  cases kr
  obtain ⟨k, h₁, h₂⟩ := hb vs r.length.symm
  have rm : VRels g ρ (more.map (·.1)) (more.map (·.2)) := by
    clear h hl hb h₁ h₂
    induction more with
    | nil => exact .nil
    | cons x l ih => exact .cons (hv x (.head _) g ρ) (ih fun y hy => hv y (.tail _ hy))
  rw [h₁, hd]
  refine wpAny_bind (wpAny_seqItems (G.gh _ _ (G.base _ _ hT)) rfl ?_)
  rw [h₂]
  refine wpAny_bind (wpAny_alloc (wpAny_pure ?_))
  obtain ⟨G', st, e⟩ := G.alloc (o := { cls := .type "dict", data := .dict #[] }) rfl (t := s.toks)
  refine ⟨_, σ, _, ρ, h, st, G', BRel.zip ((((r.append rm).mono st.ge (RLe.refl _))).append (.one (.fz ⟨_, [], 0, rfl, size_ne F G, ⟨_, #[], e, ⟨rfl, rfl, rfl⟩, rfl, fun e he => by simp at he, .nil, .nil⟩, .nil⟩))) (by simp; omega)⟩)

inductive KVs (g : Heap) : List (Str × DV) → List (Value × Value) → Prop
  | nil : KVs g [] []
  | cons {k t d v l vs} : DVal g d v → KVs g l vs → KVs g ((k, d) :: l) ((.str k t, v) :: vs)

@[irreducible] def PsP (W : Wd) (n : Nat) (sc : Scope) (es : List (Expr × Expr)) (pos : Pos) (loc : Loc) (σ : Hp) (K : List (Str × DV) → Hp → Prop) (KE : Xc → Hp → Prop) : Prop := ∀ c g ρ s, COk W n sc c → Good W c g ρ loc σ s →
  wpAny (Mo W) c.A (evalPairs (es.map fun p => (eval p.1 c.env, do let x ← eval p.2 c.env; standAt pos; pure x))) (fun vs s' => ∃ l σ' g' ρ', K l σ' ∧ Step c g ρ s g' ρ' s' ∧ Good W c g' ρ' loc σ' s' ∧ KVs g' l vs) (XPost W c g ρ loc s KE) s
theorem ps_nil {pos : Pos} {K : List (Str × DV) → Hp → Prop} (h : K [] σ) : PsP W n sc [] pos loc σ K KE := by with_unfolding_all exact (fun c g ρ s C G => evalPairs_nil ⟨[], σ, g, ρ, h, .refl, G, .nil⟩)
theorem ps_cons {pos : Pos} {ke ve : Expr} {es : List (Expr × Expr)} {K : List (Str × DV) → Hp → Prop} (h : EvP W n sc ke loc σ (fun m σ₁ => ∃ x, m = .str x ∧ EvP W n sc ve loc σ₁ (fun m₂ σ₂ => ∃ d : DV, m₂ = d.mv ∧ PsP W n sc es pos loc σ₂ (fun l σ' => K ((x, d) :: l) σ') KE) KE) KE) :
    PsP W n sc ((ke, ve) :: es) pos loc σ K KE := by with_unfolding_all exact (fun c g ρ s C G => by
  refine evalPairs_cons (wpAny_mono (h c g ρ s C G) (fun kv s₁ q => ?_) fun _ _ x => x)
  obtain ⟨m, σ₁, g₁, ρ₁, ⟨x, rfl, hv⟩, st₁, G₁, r₁⟩ := q
  refine wpAny_bind (wpAny_mono (hv c g₁ ρ₁ s₁ C G₁) (fun vv s₂ q => ?_) fun _ _ x => x.after st₁)
  obtain ⟨m₂, σ₂, g₂, ρ₂, ⟨d, rfl, hp⟩, st₂, G₂, r₂⟩ := q
  refine wpAny_bind (wpAny_standAt (wpAny_pure ?_))
  refine wpAny_mono (hp c g₂ ρ₂ s₂ C G₂) (fun vs s₃ q => ?_) fun _ _ x => x.after (st₁.trans st₂)
  obtain ⟨l, σ₃, g₃, ρ₃, hK, st₃, G₃, hvs⟩ := q
  cases r₁
  exact ⟨_, σ₃, g₃, ρ₃, hK, (st₁.trans st₂).trans st₃, G₃, .cons ((DVal.of r₂).mono st₃.ge) hvs⟩)

theorem KVs.carries {g : Heap} : ∀ {l vs}, KVs g l vs → ∃ kvs, Carries (SK W) vs kvs ∧ KVal g l kvs ∧ kvs.map (·.1) = l.map (·.1)
  | _, _, .nil => ⟨[], trivial, .nil, rfl⟩
  | _, _, .cons (k := k) (t := t) (v := v) d h => by
    obtain ⟨kvs, h1, h2, h3⟩ := KVs.carries h
    exact ⟨(k, v) :: kvs, ⟨(by simp [Value.isStrOf] : Value.isStrOf k (.str k t) = true), rfl, h1⟩, .cons d h2, by simp [h3]⟩
theorem merged_nodup : ∀ (more acc : List (Str × Value)), ((acc ++ more).map (·.1)).Nodup → merged acc more = acc ++ more
  | [], acc, _ => by simp [merged]
  | (k, v) :: more, acc, h => by
    have hk : k ∉ acc.map (·.1) := by
      rw [List.map_append, List.nodup_append] at h
      exact fun q => h.2.2 _ q k (by simp) rfl
    have e : stored acc k v = acc ++ [(k, v)] := by
      unfold stored
      refine if_neg fun q => hk ?_
      rw [List.any_eq_true] at q
      obtain ⟨y, hy, hyk⟩ := q
      rw [← of_decide_eq_true hyk]
      exact List.mem_map.mpr ⟨y, hy, rfl⟩
    have h' : ((acc ++ [(k, v)] ++ more).map (·.1)).Nodup := by simpa [List.append_assoc] using h
    show merged (stored acc k v) more = _
    rw [e, merged_nodup more _ h', List.append_assoc]; rfl

theorem ev_dict {keys : List (Option Expr)} {values : List Expr} {es : List (Expr × Expr)} {pos : Pos} (h0 : es ≠ []) (hlen : es.length ≤ 15)
    (hsh : ∀ env, (evalEachOpt keys env).zip ((evalEach values env).map fun v => do let x ← v; standAt pos; pure x) = (es.map fun p => (eval p.1 env, do let x ← eval p.2 env; standAt pos; pure x)).map fun p => (some p.1, p.2))
    (h : PsP W n sc es pos loc σ (fun l σ' => (l.map (·.1)).Nodup ∧ K (.fz (dicF W l)) σ') KE) (F : Sx W Kf) : EvP W n sc (.Dict keys values pos) loc σ K KE := by with_unfolding_all exact (fun c g ρ s C G => by
  have fr : s.heap.get? s.heap.objs.size = none := Heap.get?_none_of_le (Nat.le_refl _)
  have P := G.fresh fr
  have G₁ : Good W c g ρ loc σ { s with heap := s.heap.push { cls := .type "dict", data := .dict #[] } } := G.move (fun b o e _ => Heap.get?_push_of_some _ e) rfl rfl
  have e1 : (s.heap.push { cls := .type "dict", data := .dict #[] }).get? s.heap.objs.size = some { cls := .type "dict", data := .dict #[] } := Heap.get?_push_size _ rfl
  refine wpAny_Dict_pairs (knd := SK W) (hsh c.env) (by simpa using h0) (by simpa using hlen) (wpAny_mono (h c g ρ _ C G₁) (fun vs s₂ q => ?_) fun x s₂ q => ?_)
  · obtain ⟨l, σ₂, g₂, ρ₂, ⟨hnd, hK⟩, st₂, G₂, hvs⟩ := q
    obtain ⟨kvs, hc, hkv, hks⟩ := KVs.carries (W := W) hvs
    obtain ⟨e2, P2⟩ := st₂.ke _ _ e1 P
    refine ⟨kvs, hc, ⟨_, #[], 0, e2, ⟨rfl, rfl, rfl⟩, rfl, fun e he => by simp at he, .nil, .nil⟩, fun h' hd hs => ?_⟩
    rw [merged_nodup kvs [] (by rw [List.nil_append, hks]; exact hnd), List.nil_append] at hd
    obtain ⟨o, es', ep, ho, hx⟩ := hd
    have G₃ : Good W c g₂ ρ₂ loc σ₂ { s₂ with heap := h', toks := s₂.toks + vs.length } := G₂.move (fun b o e hb => (hs.2 b (fun q => hb (q ▸ P2))).trans e) rfl rfl
    have st₃ : Step c g ρ s g₂ ρ₂ { s₂ with heap := h', toks := s₂.toks + vs.length } := ⟨st₂.ge, st₂.re, fun a o e hp => by
      obtain ⟨a1, a2⟩ := st₂.ke a o (Heap.get?_push_of_some _ e) hp
      exact ⟨(hs.2 a (fun q => by rw [q, fr] at e; cases e)).trans a1, a2⟩⟩
    obtain ⟨G₄, st₄, e₄, le₄⟩ := G₃.freeze st₃ (fun b o e _ q => by rw [q, fr] at e; cases e) P2 ho
    exact ⟨_, σ₂, _, ρ₂, hK, st₄, G₄, .fz ⟨_, kvs, ep, rfl, size_ne F G, ⟨o, es', e₄, hx⟩, hkv.mono le₄⟩⟩
  · obtain ⟨xc, σ₂, g₂, ρ₂, h₀, k, st, Gx, X⟩ := q
    exact ⟨xc, σ₂, g₂, ρ₂, h₀, k, ⟨st.ge, st.re, fun a o e hp => st.ke a o (Heap.get?_push_of_some _ e) hp⟩, Gx, X⟩)
end
end
section
open PySem PySem.W PyProof.Rows PySem.W.X
def forTarget : Stmt → Expr
  | .For t .. => t
  | _ => .Name "" default
def forBody : Stmt → List Stmt
  | .For _ _ b .. => b
  | _ => []
/-- the loop over a dict's items -/
def dFor : Stmt := match bodyOf (topStmt 8) with
  | [.If _ _ [.If _ [s] _ _] _] => s
  | _ => .Pass default
/-- the loop over one value -/
def dIn : Stmt := match forBody dFor with
  | [.If _ [s] _ _] => s
  | _ => .Pass default

abbrev dK (env : Env) : Flow → Sem Fin := kk env (kk env (kk env funK (funH env)) (funH env)) (funH env)
abbrev dCode (env : Env) (itv : Value) : Code := .forLoop (forTarget dFor) itv (forBody dFor) [] env
abbrev dFs (env : Env) (p' : Pos) : List Frame := [.ret (loopK env (dK env) (funH env)) none false [] (.func (bodyOf (topStmt 8)) env) p' []]
abbrev dTurnK (env : Env) (itv : Value) : Flow → Sem Fin := kk env (kk env (turnK (forTarget dFor) itv (forBody dFor) env) (turnH env)) (turnH env)

section
variable {W : Wd} {Kf : Frag} {σ : Hp} {n : Nat} {K : MV → Hp → Prop} {KE : Xc → Hp → Prop}
variable {B m : Nat} {env : Env} {F' : GFun} {itv : Value} {r : Option MV} {σ₁ : Hp} {st' : GSt} {own : Own} {it : Nat}

theorem d_done {L : GSt → Loc} {loc : Loc} (hr : r = none) (hσ : σ = σ₁) (hs : SubL (L st') loc) : GP W B env L F' m r σ₁ st' (.func (bodyOf (topStmt 8)) env) (dK env .next) [] loc σ own := by
  refine g_nil ?_
  refine g_nil ?_
  refine g_nil ?_
  exact g_end hr hσ hs

/-- the last turn: no more items -/
theorem d_last (hB : B ≤ 45) {L : GSt → Loc} {l : List (Str × DV)} {p : Nat} {p' : Pos} (E : GenEnv env (scopeOf (topStmt 8)) env.locals L) (hk : (it, itv) ∈ own) (hit : σ[it]? = some (.sem (dicIt W l p))) (hl : l[p]? = none) (hr : r = none) (hσ : σ₁ = σ.set it .dead) {loc : Loc} (hs : SubL (L st') loc) :
    GP W B env L F' m r σ₁ st' (dCode env itv) (denote table (dCode env itv)) (dFs env p') loc σ own := by
  refine g_turn (j := 1) E (OverOk.func.loop) (by omega) hk fun n hn => ?_
  refine nxt_dict (n := n) rfl (by omega) hit (fun x d hx => ?_) (fun _ => ?_)
  · rw [hl] at hx; cases hx
  · exact d_done hr hσ.symm hs

/-- up to the loop over a dict's items -/
theorem d_enter (F : Pr W Kf) (hB : B ≤ 45) {L : GSt → Loc} {l : List (Str × DV)} (E : GenEnv env (scopeOf (topStmt 8)) env.locals L)
    (h : ∀ itv p', GP W B env L F' m r σ₁ st' (dCode env itv) (denote table (dCode env itv)) (dFs env p') (mLc (.fz (dicF W l))) (σ ++ [.sem (dicIt W l 0)]) [(σ.length, itv)]) :
    GP W B env L F' m r σ₁ st' (.func (bodyOf (topStmt 8)) env) (denote table (.func (bodyOf (topStmt 8)) env)) [] (mLc (.fz (dicF W l))) σ [] := by
  have FX := F.toSx
  refine g_start ?_
  refine g_cons ?_
  refine g_if (j := 0) E OverOk.func (by omega) fun n hn => ?_
  walk_at "mv"
  refine ⟨_, rfl, by walk_at "mv_keep", ?_⟩
  refine evs_cons ?_ (fun _ => rfl)
  refine ev_local (m := .fz (dicF W l)) rfl rfl rfl ?_
  walk_at "mv"
  refine call_isi_d (b := false) FX (by simp [isiCs]) rfl ?_
  refine tst_bool ?_
  rw [if_neg (by decide)]
  refine g_cons ?_
  refine g_if (j := 0) E OverOk.func (by omega) fun n hn => ?_
  walk_at "mv"
  refine ⟨_, rfl, by walk_at "mv_keep", ?_⟩
  refine evs_cons ?_ (fun _ => rfl)
  refine ev_local (m := .fz (dicF W l)) rfl rfl rfl ?_
  walk_at "mv"
  refine call_isi_d (b := true) FX (by simp [isiCs]) rfl ?_
  refine tst_bool ?_
  rw [if_pos rfl]
  refine g_cons ?_
  refine g_for (j := 0) E OverOk.func (by omega) (fun _ _ => rfl) fun n hn => ?_
  refine ev_mcall (fun _ _ => rfl) (fun _ => rfl) (by decide) rfl ?_
  refine ev_local (m := .fz (dicF W l)) rfl rfl rfl ?_
  refine ⟨_, getM_dict, keep_builtin _, ?_⟩
  refine evs_nil ?_
  refine call_items ?_
  refine iter_items ?_
  intro itv p
  exact h itv p

theorem d0_fresh (F : Pr W Kf) (hB : B ≤ 45) {F' : GFun} (hF : ∀ σ r upd st', F' ([], 0) σ = some (r, upd, st') → r = none ∧ upd σ = σ ++ [.dead]) (E : GenEnv env (scopeOf (topStmt 8)) env.locals (mLoc (.fz (dicF W [])))) (m : Nat) :
    GSpec W B env (mLoc (.fz (dicF W []))) F' m ([], 0) [] (.fresh (.func (bodyOf (topStmt 8)) env)) := by
  cases m with
  | zero => trivial
  | succ m =>
  refine gspec_fresh ?_
  intro hown σ r upd st' hF'
  obtain ⟨rfl, hu⟩ := hF _ _ _ _ hF'
  refine d_enter F hB E fun itv p' => ?_
  exact d_last hB E (.head _) (lookup_last _ _) rfl rfl (by rw [set_last]; exact hu) (SubL.refl _)

open Classical in
/-- one pair with a text -/
noncomputable def d1F (W : Wd) (k x : Str) : GFun := fun st σ => match st with
  | ([], 0) => some (some (rowM (k, x)), fun σ => σ ++ [.sem (dicIt W [(k, .s x)] 1)], ([σ.length], 1))
  | ([it], 1) => if σ[it]? = some (.sem (dicIt W [(k, .s x)] 1)) then some (none, fun σ => σ.set it .dead, ([it], 2)) else none
  | _ => none

theorem d1_tail (hB : B ≤ 45) {k x : Str} (E : GenEnv env (scopeOf (topStmt 8)) env.locals (mLoc (.fz (dicF W [(k, .s x)])))) {p' : Pos} (m : Nat) :
    GT W B env (mLoc (.fz (dicF W [(k, .s x)]))) (d1F W k x) m ([it], 1) [(it, itv)] (dCode env itv) (dTurnK env itv .next) (dFs env p') := by
  cases m with
  | zero => trivial
  | succ m =>
  intro hown σ r upd st' hF
  simp only [d1F] at hF
  split at hF
  · rename_i hit
    cases hF
    refine g_nil ?_
    refine g_nil ?_
    refine g_again ?_
    exact d_last hB E (.head _) hit rfl rfl rfl (SubL.refl _)
  · cases hF

theorem d1_fresh (F : Pr W Kf) (hB : B ≤ 45) {k x : Str} (E : GenEnv env (scopeOf (topStmt 8)) env.locals (mLoc (.fz (dicF W [(k, .s x)])))) (m : Nat) :
    GSpec W B env (mLoc (.fz (dicF W [(k, .s x)]))) (d1F W k x) m ([], 0) [] (.fresh (.func (bodyOf (topStmt 8)) env)) := by
  cases m with
  | zero => trivial
  | succ m =>
  have FX := F.toSx
  refine gspec_fresh ?_
  intro hown σ r upd st' hF
  simp only [d1F] at hF
  cases hF
  refine d_enter F hB E fun itv p' => ?_
  refine g_turn (j := 1) E (OverOk.func.loop) (by omega) (.head _) fun n hn => ?_
  refine nxt_dict (n := n) rfl (by omega) (lookup_last _ _) (fun y d hy => ?_) (fun hy => ?_)
  · cases hy
    rw [set_last]
    refine aq_tuple (by omega) rfl (fun _ => ⟨rfl, rfl⟩) ?_
    refine aqs_cons ?_ (fun _ => rfl)
    refine aq_name rfl ?_
    refine aqs_cons ?_ (fun _ => rfl)
    refine aq_name rfl ?_
    refine aqs_nil ?_
    refine g_cons ?_
    refine g_if (j := 1) E OverOk.func.loop (by omega) fun n hn => ?_
    walk_at "mv"
    refine ⟨_, rfl, by walk_at "mv_keep", ?_⟩
    walk_at "mv"
    refine ⟨by simp, ?_⟩
    walk_at "mv"
    refine call_isi_tup (b := false) (cs := [.type "list", .type "tuple", .type "set"]) (t := .type "str") FX rfl (by simp [isiTs]) (by simp [isiCs]) rfl ?_
    refine tst_bool ?_
    rw [if_neg (by decide)]
    refine g_cons ?_
    refine g_yield (j := 1) E OverOk.func.loop (by omega) E.inter (fun n hn => ?_) (sub_cons rfl (sub_cons rfl (SubL.refl _))) (fun x hx => by simp at hx; subst hx; exact .head _) (d1_tail hB E m)
    walk_at "mv"
    exact ⟨by simp, rfl, rfl⟩
  · cases hy

/-- one pair with a list -/
abbrev iK (env : Env) (itv : Value) : Flow → Sem Fin := dTurnK env itv
abbrev iCode (env : Env) (iv : Value) : Code := .forLoop (forTarget dIn) iv (forBody dIn) [] env
abbrev iFs (env : Env) (itv : Value) (p2 p' : Pos) : List Frame := .ret (loopK env (iK env itv) (turnH env)) none false [] (dCode env itv) p2 [] :: dFs env p'
def kLoc (k : Str) (mp : MV) : Loc := ("key", .str k) :: mLc mp
def d2L (mp : MV) (k : Str) : GSt → Loc := fun st => if st.2 = 0 then mLc mp else kLoc k mp

open Classical in
noncomputable def d2F (W : Wd) (k : Str) (xs : List Str) : GFun := fun st σ => match st with
  | ([], 0) => match xs[0]? with
    | some x => some (some (rowM (k, x)), fun σ => σ ++ [.sem (dicIt W [(k, .l xs)] 1)] ++ [.sem (listIt (.lst (strsM xs)) 1)], ([σ.length, σ.length + 1], 1))
    | none => none
  | ([it, i2], p + 1) => if σ[it]? = some (.sem (dicIt W [(k, .l xs)] 1)) ∧ σ[i2]? = some (.sem (listIt (.lst (strsM xs)) (p + 1))) ∧ it ≠ i2 then some (match xs[p + 1]? with
      | some x => (some (rowM (k, x)), fun σ => σ.set i2 (.sem (listIt (.lst (strsM xs)) (p + 2))), ([it, i2], p + 2))
      | none => (none, fun σ => (σ.set i2 .dead).set it .dead, ([it, i2], p + 2))) else none
  | _ => none

/-- a turn of the inner loop -/
theorem d2_turn (hB : B ≤ 45) {mp : MV} {k : Str} {xs : List Str} {i2 p : Nat} {iv : Value} (E : GenEnv env (scopeOf (topStmt 8)) env.locals (d2L mp k)) {p2 p' : Pos} {loc : Loc}
    (hsub : SubL (kLoc k mp) loc) (hst : st'.2 ≠ 0) (hne : it ≠ i2)
    (hit : σ[it]? = some (.sem (dicIt W [(k, .l xs)] 1))) (hi2 : σ[i2]? = some (.sem (listIt (.lst (strsM xs)) p)))
    (hs : ∀ x, xs[p]? = some x → r = some (rowM (k, x)) ∧ σ₁ = σ.set i2 (.sem (listIt (.lst (strsM xs)) (p + 1))) ∧ st'.1 = [it, i2])
    (he : xs[p]? = none → r = none ∧ σ₁ = (σ.set i2 .dead).set it .dead)
    (tail : GT W B env (d2L mp k) F' m st' [(i2, iv), (it, itv)] (iCode env iv) ((execs [] env).wrap (turnK (forTarget dIn) iv (forBody dIn) env) (turnH env) id id) (iFs env itv p2 p')) :
    GP W B env (d2L mp k) F' m r σ₁ st' (iCode env iv) (denote table (iCode env iv)) (iFs env itv p2 p') loc σ [(i2, iv), (it, itv)] := by
  refine g_turn (j := 2) E (OverOk.func.loop.loop) (by omega) (.head _) fun n hn => ?_
  have eL : d2L mp k st' = kLoc k mp := by unfold d2L; rw [if_neg hst]
  refine nxt_list (n := n) (l := strsM xs) (by omega) hi2 rfl (fun mv hm => ?_) (fun hm => ?_)
  · rw [strsM, List.getElem?_map, Option.map_eq_some_iff] at hm
    obtain ⟨x, hx, rfl⟩ := hm
    obtain ⟨rfl, rfl, h1⟩ := hs x hx
    refine aq_name rfl ?_
    refine g_cons ?_
    refine g_yield (j := 2) E OverOk.func.loop.loop (by omega) E.inter (fun n hn => ?_) (by rw [eL]; exact sub_cons rfl hsub) (fun y hy => by rw [h1]; simp at hy; rcases hy with rfl | rfl <;> simp) tail
    refine ev_tuple ?_
    refine evs_cons ?_ (fun _ => rfl)
    refine ev_local (m := .str k) ((sub_cons rfl hsub : SubL (kLoc k mp) _) "key" _ rfl) rfl rfl ?_
    walk_at "mv"
    exact ⟨by simp, rfl, rfl⟩
  · rw [strsM, List.getElem?_map, Option.map_eq_none_iff] at hm
    obtain ⟨rfl, rfl⟩ := he hm
    refine g_nil ?_
    refine g_nil ?_
    refine g_again ?_
    refine GP.weaken ?_ hsub
    refine d_last hB E (.tail _ (.head _)) (by rw [List.getElem?_set_ne (Ne.symm hne)]; exact hit) rfl rfl rfl ?_
    rw [eL]; exact SubL.refl _

theorem d2_tail (hB : B ≤ 45) {mp : MV} {k : Str} {xs : List Str} {i2 : Nat} {iv : Value} (E : GenEnv env (scopeOf (topStmt 8)) env.locals (d2L mp k)) {p2 p' : Pos} : ∀ (m p : Nat),
    GT W B env (d2L mp k) (d2F W k xs) m ([it, i2], p + 1) [(i2, iv), (it, itv)] (iCode env iv) ((execs [] env).wrap (turnK (forTarget dIn) iv (forBody dIn) env) (turnH env) id id) (iFs env itv p2 p')
  | 0, p => trivial
  | m + 1, p => by
    intro hown σ r upd st' hF
    have ih := d2_tail hB (xs := xs) (i2 := i2) (iv := iv) E (p2 := p2) (p' := p') m (p + 1)
    simp only [d2F] at hF
    split at hF
    · rename_i hc
      obtain ⟨hit, hi2, hne⟩ := hc
      cases hr : xs[p + 1]? with
      | some x =>
        rw [hr] at hF
        cases hF
        refine g_nil ?_
        refine g_again ?_
        exact d2_turn hB E (SubL.refl _) (by simp) hne hit hi2 (fun x' hx' => by rw [hr] at hx'; cases hx'; exact ⟨rfl, rfl, rfl⟩) (fun q => by rw [hr] at q; cases q) ih
      | none =>
        rw [hr] at hF
        cases hF
        refine g_nil ?_
        refine g_again ?_
        exact d2_turn hB E (SubL.refl _) (by simp) hne hit hi2 (fun x' hx' => by rw [hr] at hx'; cases hx') (fun _ => ⟨rfl, rfl⟩) ih
    · cases hF

theorem d2_fresh (F : Pr W Kf) (hB : B ≤ 45) {k : Str} {xs : List Str} (E : GenEnv env (scopeOf (topStmt 8)) env.locals (d2L (.fz (dicF W [(k, .l xs)])) k)) (m : Nat) :
    GSpec W B env (d2L (.fz (dicF W [(k, .l xs)])) k) (d2F W k xs) m ([], 0) [] (.fresh (.func (bodyOf (topStmt 8)) env)) := by
  cases m with
  | zero => trivial
  | succ m =>
  have FX := F.toSx
  refine gspec_fresh ?_
  intro hown σ r upd st' hF
  simp only [d2F] at hF
  split at hF
  · rename_i x0 hx0
    cases hF
    refine d_enter F hB E fun itv p' => ?_
    refine g_turn (j := 1) E (OverOk.func.loop) (by omega) (.head _) fun n hn => ?_
    refine nxt_dict (n := n) rfl (by omega) (lookup_last _ _) (fun y d hy => ?_) (fun hy => ?_)
    · cases hy
      rw [set_last]
      refine aq_tuple (by omega) rfl (fun _ => ⟨rfl, rfl⟩) ?_
      refine aqs_cons ?_ (fun _ => rfl)
      refine aq_name rfl ?_
      refine aqs_cons ?_ (fun _ => rfl)
      refine aq_name rfl ?_
      refine aqs_nil ?_
      refine g_cons ?_
      refine g_if (j := 1) E OverOk.func.loop (by omega) fun n hn => ?_
      walk_at "mv"
      refine ⟨_, rfl, by walk_at "mv_keep", ?_⟩
      walk_at "mv"
      refine ⟨by simp, ?_⟩
      walk_at "mv"
      refine call_isi_tup (b := true) (cs := [.type "list", .type "tuple", .type "set"]) (t := .type "list") FX rfl (by simp [isiTs]) (by simp [isiCs]) rfl ?_
      refine tst_bool ?_
      rw [if_pos rfl]
      refine g_cons ?_
      refine g_for (j := 1) E OverOk.func.loop (by omega) (fun _ _ => rfl) fun n hn => ?_
      walk_at "mv"
      refine iter_list (l := strsM xs) rfl ?_
      intro iv p2
      rw [show (σ ++ [MO.sem (dicIt W [(k, DV.l xs)] 1)]).length = σ.length + 1 by simp]
      refine d2_turn hB (p := 0) E (sub_cons rfl (SubL.refl _)) (by simp) (by omega) (mid2 _ _ _) (last2 _ _ _) (fun x hx => ?_) (fun hx => ?_) (d2_tail hB E m 0)
      · rw [hx0] at hx; cases hx
        exact ⟨rfl, by rw [set_last2], rfl⟩
      · rw [hx0] at hx; cases hx
    · cases hy
  · cases hF
end
end
section
open PySem PySem.W PyProof.Rows PySem.W.X
section
variable {W : Wd} {Kf : Frag} {σ : Hp} {n : Nat} {K : MV → Hp → Prop} {KE : Xc → Hp → Prop}

/-- a generator asleep at handle b, behind the base σ, that yields the rows ys -/
structure GenIs (W : Wd) (b : Nat) (R : Hp → Prop) (ys : List Row) (T : Nat → List MO) : Prop where
  nxt : ∀ n t σ p KS KN, n < 43 → σ.length = b → R σ → wf σ → p ≤ ys.length → (∀ r, ys[p]? = some r → KS (rowM r) (σ ++ T (p + 1))) → (ys[p]? = none → ∀ D, wf (σ ++ D) → KN (σ ++ D)) → (∃ elts x1 tp, t = Expr.Tuple elts x1 tp) → NxtP W n t b (σ ++ T p) KS KN
  iter : ∀ n σ p K, σ.length = b → K b (σ ++ T p) → IterP W n (.obj b) (σ ++ T p) K
  ok : ∀ σ p, σ.length = b → R σ → wf σ → wf (σ ++ T p)
  len : (T 0).length = 1 ∧ ∀ p, 1 ≤ (T p).length

theorem wf.apps {σ E : Hp} (h : wf σ) (ho : ∀ k, (σ ++ E).length ≤ k → E.all (·.ok k) = true) : wf (σ ++ E) := fun k hk => by
  rw [List.all_append, ho k hk, h k (by rw [List.length_append] at hk; omega)]; rfl
theorem app2 (σ : Hp) (a b : MO) : σ ++ [a, b] = σ ++ [a] ++ [b] := by simp
theorem app3 (σ : Hp) (a b c : MO) : σ ++ [a, b, c] = σ ++ [a] ++ [b] ++ [c] := by simp

noncomputable def multiT (W : Wd) (b : Nat) (R : Hp → Prop) (mp src : MV) (items : List MV) (p : Nat) : List MO :=
  if p = 0 then [multiS W 43 R mp src items 2000 ([], 0)] else [multiS W 43 R mp src items (2000 - p) ([b + 1], p), .sem (listIt src p)]

theorem gen_multi {b : Nat} {R : Hp → Prop} {mp src : MV} {ys : List Row} (hlim : W.base.NoLimit) (hz : ys.length < 1000) (hR : ∀ σ o, R σ → (∀ j, o.ok j = true) → R (σ ++ [o])) (has : ∀ σ, R σ → asList σ src = some (rowsM ys)) (hmp : ∀ σ, R σ → ∀ k, σ.length ≤ k → mp.ok k = true ∧ src.ok k = true) :
    GenIs W b (fun σ => R σ) ys (multiT W b R mp src (rowsM ys)) where
  len := ⟨rfl, fun p => by unfold multiT; split <;> simp⟩
  nxt := fun n t σ p KS KN hn hb hRσ hw hpl hS hN _ => by
    subst hb
    unfold multiT at hS ⊢
    by_cases hp : p = 0
    · subst hp
      rw [if_pos rfl]
      refine nxt_gen ⟨hn, by omega⟩ hlim (lookup_last _ _) fun bo hbo => ?_
      rw [set_last]
      have e := multiF_at0 (R := R) (src := src) (items := rowsM ys) (hR σ bo hRσ hbo)
      rw [show (σ ++ [bo]).length = σ.length + 1 by simp] at e
      cases hr : ys[0]? with
      | some r =>
        rw [rowsM_get, hr] at e
        refine ⟨_, _, _, e, mid2 _ _ _, ?_⟩
        dsimp only
        rw [set_mid2]
        have := hS r hr
        rw [if_neg (by omega), app2] at this
        exact this
      | none =>
        rw [rowsM_get, hr] at e
        refine ⟨_, _, _, e, mid2 _ _ _, ?_⟩
        dsimp only
        rw [set_mid2, ← app2]
        exact hN hr _ (by rw [app2]; exact (hw.app fun k _ => rfl).app fun k _ => rfl)
    · rw [if_neg hp, app2]
      · have hk : (σ ++ [multiS W 43 R mp src (rowsM ys) (2000 - p) ([σ.length + 1], p)] ++ [.sem (listIt src p)])[σ.length]? = some (multiS W 43 R mp src (rowsM ys) (2000 - (p + 1) + 1) ([σ.length + 1], p)) := by
          rw [show 2000 - (p + 1) + 1 = 2000 - p by omega]; exact mid2 _ _ _
        refine nxt_gen ⟨hn, by omega⟩ hlim hk fun bo hbo => ?_
        rw [set_mid2]
        have e := multiF_at (R := R) (it := σ.length + 1) (p := p) (asList_app (asList_app (has σ hRσ) [bo]) [.sem (listIt src p)]) (last2 _ _ _)
        cases hr : ys[p]? with
        | some r =>
          rw [rowsM_get, hr] at e
          refine ⟨_, _, _, e, by rw [set_last2]; exact mid2 _ _ _, ?_⟩
          dsimp only
          rw [set_last2, set_mid2]
          have := hS r hr
          rw [if_neg (by omega), app2] at this
          exact this
        | none =>
          rw [rowsM_get, hr] at e
          refine ⟨_, _, _, e, by rw [set_last2]; exact mid2 _ _ _, ?_⟩
          dsimp only
          rw [set_last2, set_mid2, ← app2]
          exact hN hr _ (by rw [app2]; exact (hw.app fun k _ => rfl).app fun k _ => rfl)
  iter := fun n σ p K hb hK => by
    subst hb
    unfold multiT at hK ⊢
    by_cases hp : p = 0
    · subst hp
      rw [if_pos rfl] at hK ⊢
      exact iter_gen (lookup_last _ _) hK
    · rw [if_neg hp, app2] at hK ⊢
      exact iter_gen (mid2 _ _ _) hK
  ok := fun σ p hb hRσ hw => by
    subst hb
    unfold multiT
    by_cases hp : p = 0
    · subst hp
      rw [if_pos rfl]
      refine hw.app fun k hk => ?_
      simp only [MO.ok, genS, locOk, mLc, List.all_cons, List.all_nil, Bool.and_true, (hmp σ hRσ k (by omega)).1]
    · rw [if_neg hp, app2]
      rw [← app2]
      refine hw.apps fun k hk => ?_
      simp only [List.length_append, List.length_cons, List.length_nil] at hk
      have h1 := hmp σ hRσ k (by omega)
      simp only [List.all_cons, List.all_nil, Bool.and_true, MO.ok, genS, listIt, objSem, locOk, mLc, h1.1, h1.2]
      simp; omega

noncomputable abbrev dS (W : Wd) (L : GSt → Loc) (F : GFun) (m : Nat) (st : GSt) : MO := .sem (genS W 43 (scopeOf (topStmt 8)) L F m st)
def d0F : GFun := fun st _ => match st with
  | ([], 0) => some (none, fun σ => σ ++ [.dead], ([], 1))
  | _ => none
noncomputable def d0T (W : Wd) (_ : Nat) : List MO := [dS W (mLoc (.fz (dicF W []))) d0F 2000 ([], 0)]
theorem gen_d0 {b : Nat} (hlim : W.base.NoLimit) : GenIs W b (fun _ => True) [] (d0T W) where
  len := ⟨rfl, fun p => Nat.le_refl _⟩
  nxt := fun n t σ p KS KN hn hb _ hw hpl hS hN _ => by
    subst hb
    refine nxt_gen (m := 1999) ⟨hn, by omega⟩ hlim (lookup_last _ _) fun bo hbo => ?_
    unfold d0T
    rw [set_last]
    refine ⟨none, _, ([], 1), rfl, mid2 _ _ _, ?_⟩
    dsimp only
    rw [set_mid2, ← app2]
    exact hN (by simp) _ (by rw [app2]; exact (hw.app fun k _ => rfl).app fun k _ => rfl)
  iter := fun n σ p K hb hK => by
    subst hb
    exact iter_gen (lookup_last _ _) hK
  ok := fun σ p hb _ hw => hw.app fun k hk => by simp [MO.ok, genS, locOk, mLc, MV.ok]

noncomputable def d1T (W : Wd) (b : Nat) (k x : Str) (p : Nat) : List MO :=
  if p = 0 then [dS W (mLoc (.fz (dicF W [(k, .s x)]))) (d1F W k x) 2000 ([], 0)] else [dS W (mLoc (.fz (dicF W [(k, .s x)]))) (d1F W k x) 1999 ([b + 1], 1), .sem (dicIt W [(k, .s x)] 1)]
theorem gen_d1 {b : Nat} {k x : Str} (hlim : W.base.NoLimit) : GenIs W b (fun _ => True) [(k, x)] (d1T W b k x) where
  len := ⟨rfl, fun p => by unfold d1T; split <;> simp⟩
  nxt := fun n t σ p KS KN hn hb _ hw hpl hS hN _ => by
    subst hb
    unfold d1T at hS ⊢
    by_cases hp : p = 0
    · subst hp
      rw [if_pos rfl]
      refine nxt_gen (m := 1999) ⟨hn, by omega⟩ hlim (lookup_last _ _) fun bo hbo => ?_
      rw [set_last]
      refine ⟨some (rowM (k, x)), _, ([(σ ++ [bo]).length], 1), rfl, mid2 _ _ _, ?_⟩
      dsimp only
      rw [set_mid2, show (σ ++ [bo]).length = σ.length + 1 by simp]
      have := hS (k, x) rfl
      rw [if_neg (by omega), app2] at this
      exact this
    · rw [if_neg hp, app2]
      have hp1 : p = 1 := by simp at hpl; omega
      subst hp1
      refine nxt_gen (m := 1998) ⟨hn, by omega⟩ hlim (mid2 _ _ _) fun bo hbo => ?_
      rw [set_mid2]
      refine ⟨none, fun σ' => σ'.set (σ.length + 1) .dead, ([σ.length + 1], 2), ?_, by dsimp only; rw [set_last2]; exact mid2 _ _ _, ?_⟩
      · simp only [d1F]
        rw [if_pos (last2 _ _ _)]
      · dsimp only
        rw [set_last2, set_mid2, ← app2]
        exact hN rfl _ (by rw [app2]; exact (hw.app fun k _ => rfl).app fun k _ => rfl)
  iter := fun n σ p K hb hK => by
    subst hb
    unfold d1T at hK ⊢
    by_cases hp : p = 0
    · rw [if_pos hp] at hK ⊢
      exact iter_gen (lookup_last _ _) hK
    · rw [if_neg hp, app2] at hK ⊢
      exact iter_gen (mid2 _ _ _) hK
  ok := fun σ p hb _ hw => by
    subst hb
    unfold d1T
    by_cases hp : p = 0
    · rw [if_pos hp]
      exact hw.app fun k hk => by simp [MO.ok, genS, locOk, mLc, MV.ok]
    · rw [if_neg hp]
      refine hw.apps fun k hk => ?_
      simp only [List.length_append, List.length_cons, List.length_nil] at hk
      simp [MO.ok, genS, dicIt, objSem, locOk, mLc, MV.ok]; omega

noncomputable def d2T (W : Wd) (b : Nat) (k : Str) (xs : List Str) (p : Nat) : List MO :=
  if p = 0 then [dS W (d2L (.fz (dicF W [(k, .l xs)])) k) (d2F W k xs) 2000 ([], 0)] else [dS W (d2L (.fz (dicF W [(k, .l xs)])) k) (d2F W k xs) (2000 - p) ([b + 1, b + 1 + 1], p), .sem (dicIt W [(k, .l xs)] 1), .sem (listIt (.lst (strsM xs)) p)]
open Classical in
theorem d2F_at {k : Str} {xs : List Str} {it i2 p : Nat} {τ : Hp} (hit : τ[it]? = some (.sem (dicIt W [(k, .l xs)] 1))) (hi2 : τ[i2]? = some (.sem (listIt (.lst (strsM xs)) (p + 1)))) (hne : it ≠ i2) : d2F W k xs ([it, i2], p + 1) τ = some (match xs[p + 1]? with
      | some x => (some (rowM (k, x)), fun σ : Hp => σ.set i2 (MO.sem (listIt (.lst (strsM xs)) (p + 2))), (([it, i2], p + 2) : GSt))
      | none => (none, fun σ => (σ.set i2 MO.dead).set it MO.dead, ([it, i2], p + 2))) := by
  simp only [d2F]
  rw [if_pos ⟨hit, hi2, hne⟩]
  all_goals (cases xs[p + 1]? <;> rfl)

theorem gen_d2 {b : Nat} {k : Str} {xs : List Str} (hlim : W.base.NoLimit) (hz : xs.length < 1000) (hne : xs ≠ []) : GenIs W b (fun _ => True) (xs.map fun x => (k, x)) (d2T W b k xs) where
  len := ⟨rfl, fun p => by unfold d2T; split <;> simp⟩
  nxt := fun n t σ p KS KN hn hb _ hw hpl hS hN _ => by
    subst hb
    rw [List.length_map] at hpl
    unfold d2T at hS ⊢
    by_cases hp : p = 0
    · subst hp
      rw [if_pos rfl]
      obtain ⟨x0, xs', rfl⟩ : ∃ x0 xs', xs = x0 :: xs' := by
        cases xs with
        | nil => exact absurd rfl hne
        | cons a l => exact ⟨a, l, rfl⟩
      refine nxt_gen (m := 1999) ⟨hn, by omega⟩ hlim (lookup_last _ _) fun bo hbo => ?_
      rw [set_last]
      refine ⟨some (rowM (k, x0)), _, ([(σ ++ [bo]).length, (σ ++ [bo]).length + 1], 1), rfl, (get_tail _ _ _ _).1, ?_⟩
      dsimp only
      rw [show (σ ++ [bo]).length = σ.length + 1 by simp]
      have := hS (k, x0) rfl
      rw [if_neg (by omega), app3] at this
      rw [(set_tail σ _ _ _ _ 0).2.1]
      exact this
    · rw [if_neg hp, app3]
      obtain ⟨q, rfl⟩ : ∃ q, p = q + 1 := ⟨p - 1, by omega⟩
      have hk : (σ ++ [dS W (d2L (.fz (dicF W [(k, .l xs)])) k) (d2F W k xs) (2000 - (q + 1)) ([σ.length + 1, σ.length + 1 + 1], q + 1)] ++ [.sem (dicIt W [(k, .l xs)] 1)] ++ [.sem (listIt (.lst (strsM xs)) (q + 1))])[σ.length]? =
          some (dS W (d2L (.fz (dicF W [(k, .l xs)])) k) (d2F W k xs) (2000 - (q + 1 + 1) + 1) ([σ.length + 1, σ.length + 1 + 1], q + 1)) := by
        rw [show 2000 - (q + 1 + 1) + 1 = 2000 - (q + 1) by omega]; exact (get_tail _ _ _ _).1
      refine nxt_gen ⟨hn, by omega⟩ hlim hk fun bo hbo => ?_
      rw [(set_tail σ _ _ _ _ 0).2.1]
      have gt := get_tail σ bo (.sem (dicIt W [(k, .l xs)] 1)) (.sem (listIt (.lst (strsM xs)) (q + 1)))
      have e := d2F_at (W := W) (p := q) gt.2.1 gt.2.2 (by omega)
      cases hr : xs[q + 1]? with
      | some x =>
        rw [hr] at e
        refine ⟨_, _, _, e, by rw [(set_tail σ _ _ _ _ 0).2.2.2]; exact (get_tail _ _ _ _).1, ?_⟩
        dsimp only
        rw [(set_tail σ _ _ _ _ 0).2.2.2, (set_tail σ _ _ _ _ 0).2.1]
        have := hS (k, x) (by rw [List.getElem?_map, hr]; rfl)
        rw [if_neg (by omega), app3] at this
        exact this
      | none =>
        rw [hr] at e
        refine ⟨_, _, _, e, by rw [(set_tail σ _ _ _ _ 0).2.2.2, (set_tail σ _ _ _ _ 0).2.2.1]; exact (get_tail _ _ _ _).1, ?_⟩
        dsimp only
        rw [(set_tail σ _ _ _ _ 0).2.2.2, (set_tail σ _ _ _ _ 0).2.2.1, (set_tail σ _ _ _ _ 0).2.1, ← app3]
        exact hN (by rw [List.getElem?_map, hr]; rfl) _ (by rw [app3]; exact ((hw.app fun k _ => rfl).app fun k _ => rfl).app fun k _ => rfl)
  iter := fun n σ p K hb hK => by
    subst hb
    unfold d2T at hK ⊢
    by_cases hp : p = 0
    · rw [if_pos hp] at hK ⊢
      exact iter_gen (lookup_last _ _) hK
    · rw [if_neg hp, app3] at hK ⊢
      exact iter_gen (get_tail _ _ _ _).1 hK
  ok := fun σ p hb _ hw => by
    subst hb
    unfold d2T
    by_cases hp : p = 0
    · rw [if_pos hp]
      exact hw.app fun k hk => by simp [MO.ok, genS, locOk, d2L, mLc, MV.ok]
    · rw [if_neg hp]
      refine hw.apps fun k hk => ?_
      simp only [List.length_append, List.length_cons, List.length_nil] at hk
      simp [MO.ok, genS, dicIt, listIt, objSem, locOk, d2L, hp, kLoc, mLc, MV.ok, strsM_ok]; omega
end
end
section
open PySem PySem.W PyProof.Rows
section
variable {W : Wd} {Kf : Frag} {σ : Hp} {n : Nat} {K : MV → Hp → Prop} {KE : Xc → Hp → Prop}

theorem c_d0 (F : Pr W Kf) (hn : n ≤ 45) (hs : K (.obj σ.length) (σ ++ d0T W σ.length)) : CallM W n (.ref 81) [.fz (dicF W [])] [] σ K KE := by
  refine call_cd (by omega) ?_
  obtain ⟨r, D⟩ := F.f81
  refine gen_call0 (body := bodyOf (topStmt 8)) (B := 43) (F := d0F) (m := 2000) (st0 := ([], 0)) D F.lim (by omega) rfl ⟨rfl, rfl, rfl⟩ rfl ?_
  refine bd_pos (ps := ["mapping"]) (fun vs hv => ?_) rfl ?_
  · match vs, hv with
    | [a], _ => rfl
  refine ⟨⟨⟨(by decide : (["mapping"] : List Str).Nodup), fun x hx => ?_⟩, fun env E => d0_fresh F (by omega) (fun σ r upd st' h => by cases h; exact ⟨rfl, rfl⟩) E 2000⟩, hs⟩
  simp only [List.zip_cons_cons, List.mem_cons, List.zip_nil_left] at hx
  rcases hx with rfl | hx
  · rfl
  · cases hx
theorem c_d1 (F : Pr W Kf) (hn : n ≤ 45) {k x : Str} (hs : K (.obj σ.length) (σ ++ d1T W σ.length k x 0)) : CallM W n (.ref 81) [.fz (dicF W [(k, .s x)])] [] σ K KE := by
  refine call_cd (by omega) ?_
  obtain ⟨r, D⟩ := F.f81
  refine gen_call0 (body := bodyOf (topStmt 8)) (B := 43) (F := d1F W k x) (m := 2000) (st0 := ([], 0)) D F.lim (by omega) rfl ⟨rfl, rfl, rfl⟩ rfl ?_
  refine bd_pos (ps := ["mapping"]) (fun vs hv => ?_) rfl ?_
  · match vs, hv with
    | [a], _ => rfl
  refine ⟨⟨⟨(by decide : (["mapping"] : List Str).Nodup), fun x hx => ?_⟩, fun env E => d1_fresh F (by omega) E 2000⟩, by unfold d1T at hs; rw [if_pos rfl] at hs; exact hs⟩
  simp only [List.zip_cons_cons, List.mem_cons, List.zip_nil_left] at hx
  rcases hx with rfl | hx
  · rfl
  · cases hx
theorem c_d2 (F : Pr W Kf) (hn : n ≤ 45) {k : Str} {xs : List Str} (hs : K (.obj σ.length) (σ ++ d2T W σ.length k xs 0)) : CallM W n (.ref 81) [.fz (dicF W [(k, .l xs)])] [] σ K KE := by
  refine call_cd (by omega) ?_
  obtain ⟨r, D⟩ := F.f81
  refine gen_call (body := bodyOf (topStmt 8)) (B := 43) (F := d2F W k xs) (m := 2000) (st0 := ([], 0)) D F.lim (by omega) rfl ⟨rfl, rfl, rfl⟩ rfl ?_
  refine bd_pos (ps := ["mapping"]) (fun vs hv => ?_) rfl ?_
  · match vs, hv with
    | [a], _ => rfl
  refine ⟨d2L (.fz (dicF W [(k, .l xs)])) k, ⟨⟨(by decide : (["mapping"] : List Str).Nodup), fun x hx => ?_⟩, ⟨rfl, fun st x m hx => ?_⟩, fun env E => d2_fresh F (by omega) E 2000⟩, by unfold d2T at hs; rw [if_pos rfl] at hs; exact hs⟩
  · simp only [List.zip_cons_cons, List.mem_cons, List.zip_nil_left] at hx
    rcases hx with rfl | hx
    · rfl
    · cases hx
  · unfold d2L at hx
    split at hx
    · rcases lookup_cons hx with ⟨rfl, rfl⟩ | ⟨_, hx⟩
      · rfl
      · cases hx
    · rcases lookup_cons hx with ⟨rfl, rfl⟩ | ⟨_, hx⟩
      · rfl
      · rcases lookup_cons hx with ⟨rfl, rfl⟩ | ⟨_, hx⟩
        · rfl
        · cases hx

/-- what extend() may be given -/
structure ArgIs (W : Wd) (σ : Hp) (l : Nat) (arg : MV) (ys : List Row) (R : Hp → Prop) (T : Nat → List MO) : Prop where
  gen : GenIs W σ.length R ys T
  stay : ∀ rows', R (σ.set l (.list (rowsM rows')))
  nn : ∀ n K KE, K (.bool true) σ → Op2 W n (compareOp .IsNot) arg .none σ K KE
  call : ∀ n K KE, n ≤ 45 → K (.obj σ.length) (σ ++ T 0) → CallM W n (.ref 81) [arg] [] σ K KE
  ok : ∀ k, σ.length ≤ k → arg.ok k = true

theorem c_extend (F : Pr W Kf) (hn : n ≤ 30) {h l : Nat} {rows ys : List Row} {arg : MV} {R : Hp → Prop} {T : Nat → List MO} (A : ArgIs W σ l arg ys R T) (H : HasRows σ h l rows) (hw : wf σ) (hz : rows.length + ys.length < 1000)
    (hy : ∀ r ∈ ys, Plain r.2 ∧ r.1.length ≤ 100000)
    (hs : K .none (σ.set l (.list (rowsM (rows ++ ys))))) : CallM W n (.ref 365) [.obj h, arg] [] σ K KE := by
  refine call_cd (by omega) (CdP.cut ?_)
  obtain ⟨r, Ta, n0, D, hT⟩ := F.f365
  refine fn_call (body := bodyOf (hdrStmt 10)) D F.lim (by omega) rfl ⟨rfl, rfl, rfl⟩ ?_
  have FX := F.toSx
  refine bd_dkw (ps := ["self", "arg", "kwargs"]) FX rfl hT [] (fun x hx => by cases hx) (fun vs hv => ?_) rfl ?_
  · match vs, hv with
    | [a, b], _ => exact ⟨_, rfl, rfl⟩
  refine ⟨rfl, ?_⟩
  have hll : l < σ.length := (List.getElem?_eq_some_iff.mp H.list).1
  have hhl : h < σ.length := (List.getElem?_eq_some_iff.mp H.inst).1
  have lS : ∀ ro' : List Row, (σ.set l (.list (rowsM ro'))).length = σ.length := fun _ => List.length_set
  have wS : ∀ ro' : List Row, wf (σ.set l (.list (rowsM ro'))) := fun ro' => hw.rows ro'
  have aS : ∀ p, Short (rows ++ ys.take p) := fun p => H.short.app fun r hr => by
    have := hy r (List.mem_of_mem_take hr); exact ⟨this.2, this.1.2⟩
  have aL : ∀ p, (rows ++ ys.take p).length ≤ 1000 := fun p => by rw [List.length_append, List.length_take]; omega
  have HS : ∀ p, HasRows (σ.set l (.list (rowsM (rows ++ ys.take p)))) h l (rows ++ ys.take p) := fun p => H.upd (aS p) (aL p)
  refine exs_cons ?_
  refine ex_if ?_
  refine ts_compare ?_ rfl
  refine ev_local (m := arg) rfl rfl rfl ?_
  refine ev_none ?_
  refine A.nn _ _ _ ?_
  refine tst_bool ?_
  refine ⟨fun _ => ?_, nofun⟩
  refine exs_cons ?_
  refine ex_for ?_ (fun _ _ => rfl)
  walk_at "mv"
  refine ⟨_, rfl, by walk_at "mv_keep", ?_⟩
  refine evs_cons ?_ (fun _ => rfl)
  refine ev_local (m := arg) rfl rfl rfl ?_
  refine evs_nil ?_
  refine A.call _ _ _ (by omega) ?_
  refine A.gen.iter _ _ _ _ rfl ?_
  have e0 : σ.set l (.list (rowsM (rows ++ ys.take 0))) = σ := by rw [List.take_zero, List.append_nil]; exact set_same H.list
  refine loop_ind (fun m loc' σ' => ∃ p, m = ys.length - p ∧ p ≤ ys.length ∧ loc' = _ ∧ σ' = σ.set l (.list (rowsM (rows ++ ys.take p))) ++ T p) ?_ ys.length ⟨0, rfl, Nat.zero_le _, rfl, by rw [e0]⟩
  rintro m loc' σ' ⟨p, rfl, hp, rfl, rfl⟩
  refine A.gen.nxt _ _ _ _ _ _ (by omega) (lS _) (A.stay _) (wS _) hp (fun r hr => ?_) (fun hr D hD => ?_) ⟨_, _, _, rfl⟩
  · obtain ⟨hP, hk⟩ := hy r (List.mem_of_getElem? hr)
    have hpl := (List.getElem?_eq_some_iff.mp hr).1
    have e1 : ys.take (p + 1) = ys.take p ++ [r] := by rw [List.take_add_one, hr]; rfl
    refine as_tuple (by omega) rfl (fun _ => ⟨rfl, rfl⟩) ?_
    refine ass_cons ?_ (fun _ => rfl)
    refine as_name rfl ?_
    refine ass_cons ?_ (fun _ => rfl)
    refine as_name rfl ?_
    refine ass_nil ?_
    have H2 := (HS p).app (T (p + 1))
    have w2 := A.gen.ok _ (p + 1) (lS _) (A.stay (rows ++ ys.take p)) (wS _)
    refine exs_cons ?_
    refine ex_expr ?_ (fun _ => rfl)
    refine ev_mcall (fun _ _ => rfl) (fun _ => rfl) (by decide) rfl ?_
    refine ev_local (m := .obj h) rfl rfl rfl ?_
    refine meth_at FX 429 H2.inst ?_
    refine evs_cons ?_ (fun _ => rfl)
    refine ev_local (m := .str r.1) rfl rfl rfl ?_
    refine evs_cons ?_ (fun _ => rfl)
    refine ev_local (m := .str r.2) rfl rfl rfl ?_
    refine evs_nil ?_
    refine c_add FX F.re F.f543 F.f429 (by omega) H2 w2 (by rw [List.length_append, List.length_take]; omega) (.str r.2) hP.1 (fun _ => ?_) nofun
    refine ⟨rfl, ?_⟩
    refine exs_nil ?_
    dsimp only
    refine ⟨ys.length - (p + 1), by omega, ?_⟩
    rw [List.set_append_left l _ (by rw [lS]; exact hll), List.set_set]
    have e2 : rows ++ ys.take p ++ [(r.1, r.2)] = rows ++ ys.take (p + 1) := by rw [e1]; simp
    rw [e2]
    refine less_full ?_ (sub_cons rfl (sub_cons rfl (SubL.refl _))) ?_ (A.gen.ok _ (p + 1) (lS _) (A.stay _) (wS _)) ⟨p + 1, rfl, by omega, rfl, rfl⟩
    · have := A.gen.len.1
      have := A.gen.len.2 (p + 1)
      rw [List.length_append, List.length_append, lS]; omega
    · have := A.ok ((σ.set l (.list (rowsM (rows ++ ys.take (p + 1)))) ++ T (p + 1)).length) (by rw [List.length_append, lS]; omega)
      simp only [locOk, List.zip_cons_cons, List.zip_nil_left, List.append_nil, List.map_nil, List.cons_append, List.nil_append, List.all_cons, List.all_nil, Bool.and_true, Bool.and_eq_true]
      refine ⟨?_, this, rfl⟩
      simp only [MV.ok, decide_eq_true_eq, List.length_append, lS]
      omega
  · have e3 : ys.take p = ys := by
      rw [List.getElem?_eq_none_iff] at hr
      exact List.take_of_length_le hr
    rw [e3] at hD ⊢
    refine exs_nil ?_
    dsimp only
    refine exs_nil ?_
    dsimp only
    refine exs_cons ?_
    refine ex_for ?_ (fun _ _ => rfl)
    walk_at "mv"
    refine ⟨_, rfl, by walk_at "mv_keep", ?_⟩
    refine evs_cons ?_ (fun _ => rfl)
    refine ev_local (m := .fz (dicF W [])) rfl rfl rfl ?_
    refine evs_nil ?_
    refine c_d0 F (by omega) ?_
    generalize hτ : σ.set l (.list (rowsM (rows ++ ys))) ++ D = τ at hD ⊢
    have GI := gen_d0 (W := W) (b := τ.length) F.lim
    refine GI.iter _ _ 0 _ rfl ?_
    refine loop_ind (fun m loc' σ' => loc' = _ ∧ σ' = τ ++ d0T W 0) ?_ 0 ⟨rfl, rfl⟩
    rintro m loc' σ' ⟨rfl, rfl⟩
    refine GI.nxt _ _ _ 0 _ _ (by omega) rfl trivial hD (Nat.zero_le _) (fun r hr => by simp at hr) (fun hr D' hD' => ?_) ⟨_, _, _, rfl⟩
    refine exs_nil ?_
    dsimp only
    refine exs_nil ?_
    rw [← hτ, List.append_assoc]
    exact cut_at (σ₀ := σ) (m := .none) (lS _).symm (wS _) rfl hs
end
end
section
open PySem PySem.W PyProof.Rows
section
variable {W : Wd} {Kf : Frag} {σ : Hp} {n : Nat} {K : MV → Hp → Prop} {KE : Xc → Hp → Prop}

theorem cut_allk {k₀ : Nat} {σ' : Hp} {K : MV → Hp → Prop} {m : MV} (e : k₀ ≤ σ'.length) (h : wf σ') (hm : m.ok σ'.length = true) (k : K m σ') : Cut k₀ K m σ' :=
  ⟨σ'.length, e, hm, by rw [List.take_length]; exact h _ (Nat.le_refl _), by rw [List.take_length]; exact k⟩
theorem cutx_allk {k₀ : Nat} {σ' : Hp} {K : Xc → Hp → Prop} {x : Xc} (e : k₀ ≤ σ'.length) (h : wf σ') (k : K x σ') : CutX k₀ K x σ' :=
  ⟨σ'.length, e, by rw [List.take_length]; exact h _ (Nat.le_refl _), by rw [List.take_length]; exact k⟩

theorem c_extend_bad (F : Pr W Kf) (hn : n ≤ 30) {h l : Nat} {rows ys : List Row} {arg : MV} {R : Hp → Prop} {T : Nat → List MO} (A : ArgIs W σ l arg ys R T) (H : HasRows σ h l rows) (hw : wf σ) (hz : rows.length < 1000)
    {y : Row} (hy0 : ys[0]? = some y) (hy : reSays y.2 = some true) (hs : KE .val σ) : CallM W n (.ref 365) [.obj h, arg] [] σ K KE := by
  refine call_cd (by omega) (CdP.cut ?_)
  obtain ⟨r, Ta, n0, D, hT⟩ := F.f365
  refine fn_call (body := bodyOf (hdrStmt 10)) D F.lim (by omega) rfl ⟨rfl, rfl, rfl⟩ ?_
  have FX := F.toSx
  refine bd_dkw (ps := ["self", "arg", "kwargs"]) FX rfl hT [] (fun x hx => by cases hx) (fun vs hv => ?_) rfl ?_
  · match vs, hv with
    | [a, b], _ => exact ⟨_, rfl, rfl⟩
  refine ⟨rfl, ?_⟩
  have e0 : σ.set l (.list (rowsM rows)) = σ := set_same H.list
  have hR : R σ := by have := A.stay rows; rwa [e0] at this
  refine exs_cons ?_
  refine ex_if ?_
  refine ts_compare ?_ rfl
  refine ev_local (m := arg) rfl rfl rfl ?_
  refine ev_none ?_
  refine A.nn _ _ _ ?_
  refine tst_bool ?_
  refine ⟨fun _ => ?_, nofun⟩
  refine exs_cons ?_
  refine ex_for ?_ (fun _ _ => rfl)
  walk_at "mv"
  refine ⟨_, rfl, by walk_at "mv_keep", ?_⟩
  refine evs_cons ?_ (fun _ => rfl)
  refine ev_local (m := arg) rfl rfl rfl ?_
  refine evs_nil ?_
  refine A.call _ _ _ (by omega) ?_
  refine A.gen.iter _ _ _ _ rfl ?_
  refine loop_ind (fun m loc' σ' => loc' = _ ∧ σ' = σ ++ T 0) ?_ 0 ⟨rfl, rfl⟩
  rintro m loc' σ' ⟨rfl, rfl⟩
  refine A.gen.nxt _ _ _ 0 _ _ (by omega) rfl hR hw (Nat.zero_le _) (fun r hr => ?_) (fun hr D hD => ?_) ⟨_, _, _, rfl⟩
  · rw [hy0] at hr; cases hr
    refine as_tuple (by omega) rfl (fun _ => ⟨rfl, rfl⟩) ?_
    refine ass_cons ?_ (fun _ => rfl)
    refine as_name rfl ?_
    refine ass_cons ?_ (fun _ => rfl)
    refine as_name rfl ?_
    refine ass_nil ?_
    have H2 := H.app (T (0 + 1))
    have w2 := A.gen.ok _ (0 + 1) rfl hR hw
    refine exs_cons ?_
    refine ex_expr ?_ (fun _ => rfl)
    refine ev_mcall (fun _ _ => rfl) (fun _ => rfl) (by decide) rfl ?_
    refine ev_local (m := .obj h) rfl rfl rfl ?_
    refine meth_at FX 429 H2.inst ?_
    refine evs_cons ?_ (fun _ => rfl)
    refine ev_local (m := .str y.1) rfl rfl rfl ?_
    refine evs_cons ?_ (fun _ => rfl)
    refine ev_local (m := .str y.2) rfl rfl rfl ?_
    refine evs_nil ?_
    refine c_add FX F.re F.f543 F.f429 (by omega) H2 w2 hz (.str y.2) hy nofun (fun _ => ?_)
    exact cutx_same hw hs
  · rw [hy0] at hr; cases hr

/-- making one from an argument -/
theorem c_new (F : Pr W Kf) (hn : n ≤ 28) {ys : List Row} {arg : MV} {R : Hp → Prop} {T : Nat → List MO} (A : ArgIs W (σ ++ [.inst (some (σ.length + 1))] ++ [.list []]) (σ.length + 1) arg ys R T) (hw : wf σ) (hz : ys.length < 1000)
    (hnn : ∀ n σ K KE, K (.bool true) σ → Op2 W n (compareOp .IsNot) arg .none σ K KE)
    (hy : ∀ r ∈ ys, Plain r.2 ∧ r.1.length ≤ 100000)
    (hs : K (.obj σ.length) (σ ++ [.inst (some (σ.length + 1))] ++ [.list (rowsM ys)])) : CallM W n (.ref 527) [arg] [] σ K KE := by
  have FX := F.toSx
  refine call_class FX (by omega) (CdP.cut ?_)
  obtain ⟨r, Ta, n0, D, hT⟩ := F.f295
  refine fn_call (body := bodyOf (hdrStmt 0)) D F.lim (by omega) rfl ⟨rfl, rfl, rfl⟩ ?_
  refine bd_def (ps := ["self", "defaults"]) rfl hT [] (fun x hx => by cases hx) (fun vs hv => ?_) rfl ?_
  · match vs, hv with
    | [a, b], _ => exact ⟨_, rfl, rfl⟩
  refine ⟨rfl, ?_⟩
  refine exs_cons ?_
  refine ex_assign ?_ (fun _ _ => rfl) (fun _ _ => rfl) (fun _ => rfl)
  refine ev_list_new ?_
  refine as_attr ?_
  refine ev_local (m := .obj σ.length) rfl rfl rfl ?_
  refine st_list FX (l := (σ ++ [MO.inst none]).length) (mid2 _ _ _) (lookup_last _ _) ?_
  rw [set_mid2, show (σ ++ [MO.inst none]).length = σ.length + 1 by simp]
  have H : HasRows (σ ++ [.inst (some (σ.length + 1))] ++ [.list []]) σ.length (σ.length + 1) [] := ⟨mid2 _ _ _, last2 _ _ _, (fun r hr => by cases hr), Nat.zero_le _⟩
  have hw2 : ∀ rows, wf (σ ++ [.inst (some (σ.length + 1))] ++ [.list (rowsM rows)]) := fun rows => by
    rw [← app2]
    refine hw.apps fun k hk => ?_
    simp only [List.length_append, List.length_cons, List.length_nil] at hk
    simp only [List.all_cons, List.all_nil, Bool.and_true, Bool.and_eq_true]
    exact ⟨by simp [MO.ok]; omega, ok_rows _ _⟩
  dsimp only
  refine exs_cons ?_
  refine ex_if ?_
  refine ts_compare ?_ rfl
  refine ev_local (m := arg) rfl rfl rfl ?_
  refine ev_none ?_
  refine hnn _ _ _ _ ?_
  refine tst_bool ?_
  refine ⟨fun _ => ?_, nofun⟩
  refine exs_cons ?_
  refine ex_expr ?_ (fun _ => rfl)
  refine ev_mcall (fun _ _ => rfl) (fun _ => rfl) (by decide) rfl ?_
  refine ev_local (m := .obj σ.length) rfl rfl rfl ?_
  refine meth_at FX 365 H.inst ?_
  refine evs_cons ?_ (fun _ => rfl)
  refine ev_local (m := arg) rfl rfl rfl ?_
  refine evs_nil ?_
  refine c_extend F (by omega) A H (hw2 []) (by simpa using hz) hy ?_
  rw [set_last2, List.nil_append]
  refine ⟨rfl, ?_⟩
  refine exs_nil ?_
  dsimp only
  refine exs_nil ?_
  exact cut_allk (m := .none) (by simp) (hw2 _) rfl (And.intro rfl hs)

theorem c_new_bad (F : Pr W Kf) (hn : n ≤ 28) {ys : List Row} {arg : MV} {R : Hp → Prop} {T : Nat → List MO} (A : ArgIs W (σ ++ [.inst (some (σ.length + 1))] ++ [.list []]) (σ.length + 1) arg ys R T) (hw : wf σ)
    (hnn : ∀ n σ K KE, K (.bool true) σ → Op2 W n (compareOp .IsNot) arg .none σ K KE)
    {y : Row} (hy0 : ys[0]? = some y) (hy : reSays y.2 = some true)
    (hs : KE .val (σ ++ [.inst (some (σ.length + 1))] ++ [.list []])) : CallM W n (.ref 527) [arg] [] σ K KE := by
  have FX := F.toSx
  refine call_class FX (by omega) (CdP.cut ?_)
  obtain ⟨r, Ta, n0, D, hT⟩ := F.f295
  refine fn_call (body := bodyOf (hdrStmt 0)) D F.lim (by omega) rfl ⟨rfl, rfl, rfl⟩ ?_
  refine bd_def (ps := ["self", "defaults"]) rfl hT [] (fun x hx => by cases hx) (fun vs hv => ?_) rfl ?_
  · match vs, hv with
    | [a, b], _ => exact ⟨_, rfl, rfl⟩
  refine ⟨rfl, ?_⟩
  refine exs_cons ?_
  refine ex_assign ?_ (fun _ _ => rfl) (fun _ _ => rfl) (fun _ => rfl)
  refine ev_list_new ?_
  refine as_attr ?_
  refine ev_local (m := .obj σ.length) rfl rfl rfl ?_
  refine st_list FX (l := (σ ++ [MO.inst none]).length) (mid2 _ _ _) (lookup_last _ _) ?_
  rw [set_mid2, show (σ ++ [MO.inst none]).length = σ.length + 1 by simp]
  have H : HasRows (σ ++ [.inst (some (σ.length + 1))] ++ [.list []]) σ.length (σ.length + 1) [] := ⟨mid2 _ _ _, last2 _ _ _, (fun r hr => by cases hr), Nat.zero_le _⟩
  have hw2 : ∀ rows, wf (σ ++ [.inst (some (σ.length + 1))] ++ [.list (rowsM rows)]) := fun rows => by
    rw [← app2]
    refine hw.apps fun k hk => ?_
    simp only [List.length_append, List.length_cons, List.length_nil] at hk
    simp only [List.all_cons, List.all_nil, Bool.and_true, Bool.and_eq_true]
    exact ⟨by simp [MO.ok]; omega, ok_rows _ _⟩
  dsimp only
  refine exs_cons ?_
  refine ex_if ?_
  refine ts_compare ?_ rfl
  refine ev_local (m := arg) rfl rfl rfl ?_
  refine ev_none ?_
  refine hnn _ _ _ _ ?_
  refine tst_bool ?_
  refine ⟨fun _ => ?_, nofun⟩
  refine exs_cons ?_
  refine ex_expr ?_ (fun _ => rfl)
  refine ev_mcall (fun _ _ => rfl) (fun _ => rfl) (by decide) rfl ?_
  refine ev_local (m := .obj σ.length) rfl rfl rfl ?_
  refine meth_at FX 365 H.inst ?_
  refine evs_cons ?_ (fun _ => rfl)
  refine ev_local (m := arg) rfl rfl rfl ?_
  refine evs_nil ?_
  refine c_extend_bad F (by omega) A H (hw2 []) (by decide) hy0 hy ?_
  exact cutx_allk (by simp) (hw2 []) hs
end
end
section
open PySem PySem.W PyProof.Rows
section
variable {W : Wd} {Kf : Frag} {σ : Hp} {n : Nat} {K : MV → Hp → Prop} {KE : Xc → Hp → Prop}

theorem multiT0 {b : Nat} {R : Hp → Prop} {mp src : MV} {items : List MV} : multiT W b R mp src items 0 = [multiS W 43 R mp src items 2000 ([], 0)] := by
  unfold multiT; rw [if_pos rfl]

/-- a plain list of pairs -/
theorem arg_list (F : Pr W Kf) {l : Nat} {ys : List Row} (hz : ys.length < 1000) :
    ArgIs W σ l (.lst (rowsM ys)) ys (fun _ => True) (multiT W σ.length (fun _ => True) (.lst (rowsM ys)) (.lst (rowsM ys)) (rowsM ys)) where
  gen := gen_multi F.lim hz (fun _ _ _ _ => trivial) (fun _ _ => rfl) (fun _ _ k _ => ⟨by simp only [MV.ok]; exact ok_rows _ _, by simp only [MV.ok]; exact ok_rows _ _⟩)
  stay := fun _ => trivial
  nn := fun n K KE h => op_isnot_none rfl h
  call := fun n K KE hn h => by
    rw [multiT0] at h
    exact c_multi F hn 43 2000 ⟨fun _ _ => rfl, fun _ _ => tyc_list rfl, fun n _ σ K _ h => iter_list rfl h, fun _ _ => ⟨.type "list", rfl, by simp [isiTs], rfl⟩⟩ h
  ok := fun k _ => by simp only [MV.ok]; exact ok_rows _ _

/-- a list that is some Headers' own -/
theorem arg_mlist (F : Pr W Kf) {l l' : Nat} {ys : List Row} (hz : ys.length < 1000) (hl : σ[l']? = some (.list (rowsM ys))) (ne : l ≠ l') :
    ArgIs W σ l (.obj l') ys (fun τ => τ[l']? = some (.list (rowsM ys))) (multiT W σ.length (fun τ => τ[l']? = some (.list (rowsM ys))) (.obj l') (.obj l') (rowsM ys)) where
  gen := gen_multi F.lim hz (fun τ o h _ => lookup_app h) (fun τ h => as_obj h) (fun τ h k hk => by
    have := (List.getElem?_eq_some_iff.mp h).1
    simp only [MV.ok, decide_eq_true_eq, and_self]; omega)
  stay := fun rows' => by
    show (σ.set l _)[l']? = _
    rw [List.getElem?_set_ne ne]; exact hl
  nn := fun n K KE h => op_isnot_none rfl h
  call := fun n K KE hn h => by
    rw [multiT0] at h
    exact c_multi F hn 43 2000 ⟨fun τ h => as_obj h, fun τ h => tyc_list (as_obj h), fun n _ σ K hR h => iter_list (as_obj hR) h, fun τ h => ⟨.type "list", by
      have h' : τ[l']? = some (.list (rowsM ys)) := h
      simp only [typM, h'], by simp [isiTs], rfl⟩⟩ h
  ok := fun k hk => by
    have := (List.getElem?_eq_some_iff.mp hl).1
    simp only [MV.ok, decide_eq_true_eq]; omega

/-- other headers -/
theorem arg_inst (F : Pr W Kf) {l h' l' : Nat} {ys : List Row} (hz : ys.length < 1000) (H : HasRows σ h' l' ys) (hw : wf σ) (ne : l ≠ l') (ne' : l ≠ h') :
    ArgIs W σ l (.obj h') ys (fun τ => HasRows τ h' l' ys ∧ wf τ) (multiT W σ.length (fun τ => HasRows τ h' l' ys ∧ wf τ) (.obj h') (.obj l') (rowsM ys)) where
  gen := gen_multi F.lim hz (fun τ o h ho => ⟨h.1.app [o], h.2.app fun k _ => ho k⟩) (fun τ h => as_obj h.1.list) (fun τ h k hk => by
    have := (List.getElem?_eq_some_iff.mp h.1.list).1
    have := (List.getElem?_eq_some_iff.mp h.1.inst).1
    simp only [MV.ok, decide_eq_true_eq]; omega)
  stay := fun rows' => ⟨H.set (Ne.symm ne') (Ne.symm ne) _, hw.rows _⟩
  nn := fun n K KE h => op_isnot_none rfl h
  call := fun n K KE hn h => by
    rw [multiT0] at h
    refine c_multi F hn 43 2000 ⟨fun τ h => as_obj h.1.list, fun τ h => tyc_inst F.toSf h.1.inst, fun n hn σ K hR h => ?_, fun τ h => ⟨.ref 527, by simp only [typM, h.1.inst], by simp [isiTs], rfl⟩⟩ h
    refine iter_inst F.toSf hR.1.inst ?_
    refine c_iter F.toSx F.f415 (by omega) hR.1 hR.2 ?_
    exact ⟨_, _, _, rfl, lookup_last _ _, h⟩
  ok := fun k hk => by
    have := (List.getElem?_eq_some_iff.mp H.inst).1
    simp only [MV.ok, decide_eq_true_eq]; omega

theorem arg_d1 (F : Pr W Kf) {l : Nat} {k x : Str} : ArgIs W σ l (.fz (dicF W [(k, .s x)])) [(k, x)] (fun _ => True) (d1T W σ.length k x) where
  gen := gen_d1 F.lim
  stay := fun _ => trivial
  nn := fun n K KE h => op_isnot_none_d h
  call := fun n K KE hn h => c_d1 F hn h
  ok := fun k hk => rfl
theorem arg_d2 (F : Pr W Kf) {l : Nat} {k : Str} {xs : List Str} (hz : xs.length < 1000) (hne : xs ≠ []) : ArgIs W σ l (.fz (dicF W [(k, .l xs)])) (xs.map fun x => (k, x)) (fun _ => True) (d2T W σ.length k xs) where
  gen := gen_d2 F.lim hz hne
  stay := fun _ => trivial
  nn := fun n K KE h => op_isnot_none_d h
  call := fun n K KE hn h => c_d2 F hn h
  ok := fun k hk => rfl

/-- rows whose parts may be put in -/
def Clean (ys : List Row) : Prop := ∀ r ∈ ys, Plain r.2 ∧ r.1.length ≤ 100000

theorem new_list (F : Pr W Kf) (hn : n ≤ 28) {ys : List Row} (hw : wf σ) (hz : ys.length < 1000) (hy : Clean ys) (hs : K (.obj σ.length) (σ ++ [.inst (some (σ.length + 1))] ++ [.list (rowsM ys)])) : CallM W n (.ref 527) [.lst (rowsM ys)] [] σ K KE :=
  c_new F hn (arg_list F hz) hw hz (fun n σ K KE h => op_isnot_none rfl h) hy hs
theorem new_list_bad (F : Pr W Kf) (hn : n ≤ 28) {key x : Str} (hw : wf σ) (hx : reSays x = some true) (hs : KE .val (σ ++ [.inst (some (σ.length + 1))] ++ [.list []])) : CallM W n (.ref 527) [.lst (rowsM [(key, x)])] [] σ K KE :=
  c_new_bad F hn (arg_list F (by simp)) hw (fun n σ K KE h => op_isnot_none rfl h) rfl hx hs
theorem new_mlist (F : Pr W Kf) (hn : n ≤ 28) {l : Nat} {ys : List Row} (hw : wf σ) (hl : σ[l]? = some (.list (rowsM ys))) (hz : ys.length < 1000) (hy : Clean ys) (hs : K (.obj σ.length) (σ ++ [.inst (some (σ.length + 1))] ++ [.list (rowsM ys)])) : CallM W n (.ref 527) [.obj l] [] σ K KE :=
  c_new F hn (arg_mlist F hz (by rw [List.append_assoc]; exact lookup_app hl) (by have := (List.getElem?_eq_some_iff.mp hl).1; omega)) hw hz (fun n σ K KE h => op_isnot_none rfl h) hy hs

theorem c_copy (F : Pr W Kf) (hn : n ≤ 26) {h l : Nat} {rows : List Row} (H : HasRows σ h l rows) (hw : wf σ) (hz : rows.length < 1000) (hy : Clean rows)
    (hs : K (.obj σ.length) (σ ++ [.inst (some (σ.length + 1))] ++ [.list (rowsM rows)])) : CallM W n (.ref 510) [.obj h] [] σ K KE := by
  refine call_cd (by omega) (CdP.cut ?_)
  obtain ⟨r, D⟩ := F.f510
  refine fn_call (body := bodyOf (hdrStmt 31)) D F.lim (by omega) rfl ⟨rfl, rfl, rfl⟩ ?_
  refine bd_pos (ps := ["self"]) (fun vs hv => ?_) rfl ?_
  · match vs, hv with
    | [a], _ => rfl
  refine ⟨rfl, ?_⟩
  have FX := F.toSx
  walk_at "mv"
  refine ⟨_, rfl, by walk_at "mv_keep", ?_⟩
  walk_at "mv"
  refine op_list_attr FX.toSf H.inst ?_
  walk_at "mv"
  refine new_mlist F (by omega) hw H.list hz hy ?_
  refine cut_allk (by simp) ?_ (by simp [retOf, MV.ok]) hs
  rw [← app2]
  refine hw.apps fun k hk => ?_
  simp only [List.length_append, List.length_cons, List.length_nil] at hk
  simp only [List.all_cons, List.all_nil, Bool.and_true, Bool.and_eq_true]
  exact ⟨by simp [MO.ok]; omega, ok_rows _ _⟩
end
end
section
open PySem PySem.W PyProof.Rows
section
variable {W : Wd} {Kf : Frag} {σ : Hp} {n : Nat} {K : MV → Hp → Prop} {KE : Xc → Hp → Prop}

def setAll (rows ys : List Row) : List Row := ys.foldl (fun rs r => setRows r.1 r.2 rs) rows
theorem setAll_snoc (rows ys : List Row) (r : Row) : setAll rows (ys ++ [r]) = setRows r.1 r.2 (setAll rows ys) := by simp [setAll]
theorem setAll_len (rows : List Row) : ∀ ys : List Row, (setAll rows ys).length ≤ rows.length + ys.length := fun ys => by
  induction ys generalizing rows with
  | nil => simp [setAll]
  | cons y ys ih =>
    have := ih (setRows y.1 y.2 rows)
    have := setRows_len (key := y.1) (x := y.2) rows
    simp only [setAll, List.foldl_cons, List.length_cons] at *
    omega
theorem setAll_short {rows ys : List Row} (h : Short rows) (hy : Short ys) : Short (setAll rows ys) := by
  induction ys generalizing rows with
  | nil => exact h
  | cons y ys ih => exact ih (h.set (hy y (.head _)).1 (hy y (.head _)).2) fun r hr => hy r (.tail _ hr)

/-- the loop over no keywords -/
theorem no_kwargs (F : Pr W Kf) {sc : Scope} (hn : n < 1000) {loc : Loc} {target : Expr} {body : List Stmt} {apos cpos fpos np : Pos} {K : Fl → Loc → Hp → Prop} {KE : Xc → Loc → Hp → Prop} (hl : loc.lookup ("kwargs" : Str) = some (.fz (dicF W []))) (hh : (apos.endLine == cpos.line) = true)
    (hev : ∀ env, eval (.Call (.Attribute (.Name "kwargs" np) "items" apos) [] [] cpos) env = (do
      let ov ← eval (.Name "kwargs" np) env
      standAt apos.atName
      methodCall (.Name "kwargs" np) "items" apos cpos env ov (0 + 0) (backTo cpos (starEach [] env)) []))
    (hs : ∀ env x, foldedSetIterable (.Call (.Attribute (.Name "kwargs" np) "items" apos) [] [] cpos) env x = pure x) (ht : ∃ elts x1 tp, target = Expr.Tuple elts x1 tp)
    (h : K .next loc (σ ++ [.dead])) : ExP W n sc (.For target (.Call (.Attribute (.Name "kwargs" np) "items" apos) [] [] cpos) body [] fpos) loc σ K KE := by
  obtain ⟨elts, x1, tp, rfl⟩ := ht
  refine ex_for ?_ hs
  refine ev_mcall (fun _ _ => rfl) hev (by decide) hh ?_
  refine ev_local hl rfl rfl ?_
  refine ⟨_, getM_dict, keep_builtin _, ?_⟩
  refine evs_nil ?_
  refine call_items ?_
  refine iter_items ?_
  refine loop_ind (fun m loc' σ' => loc' = loc ∧ σ' = σ ++ [.sem (dicIt W [] 0)]) ?_ 0 ⟨rfl, rfl⟩
  rintro m loc' σ' ⟨rfl, rfl⟩
  refine nxt_dict (n := n) rfl hn (lookup_last _ _) (fun x d hx => by simp at hx) (fun _ => ?_)
  rw [set_last]
  exact exs_nil h

theorem c_update_list (F : Pr W Kf) (hn : n ≤ 28) {h l : Nat} {rows ys : List Row} (H : HasRows σ h l rows) (hw : wf σ) (hz : rows.length + ys.length < 999) (hy : Clean ys)
    (hs : K .none (σ.set l (.list (rowsM (setAll rows ys))))) : CallM W n (.ref 482) [.obj h, .lst (rowsM ys)] [] σ K KE := by
  refine call_cd (by omega) (CdP.cut ?_)
  obtain ⟨r, Ta, n0, D, hT⟩ := F.f482
  refine fn_call (body := bodyOf (hdrStmt 27)) D F.lim (by omega) rfl ⟨rfl, rfl, rfl⟩ ?_
  have FX := F.toSx
  refine bd_dkw (ps := ["self", "arg", "kwargs"]) FX rfl hT [] (fun x hx => by cases hx) (fun vs hv => ?_) rfl ?_
  · match vs, hv with
    | [a, b], _ => exact ⟨_, rfl, rfl⟩
  refine ⟨rfl, ?_⟩
  have hll : l < σ.length := (List.getElem?_eq_some_iff.mp H.list).1
  have hhl : h < σ.length := (List.getElem?_eq_some_iff.mp H.inst).1
  have lS : ∀ ro' : List Row, (σ.set l (.list (rowsM ro'))).length = σ.length := fun _ => List.length_set
  have shY : Short ys := fun r hr => ⟨(hy r hr).2, (hy r hr).1.2⟩
  have HS : ∀ p, HasRows (σ.set l (.list (rowsM (setAll rows (ys.take p))))) h l (setAll rows (ys.take p)) := fun p => H.upd (setAll_short H.short fun r hr => shY r (List.mem_of_mem_take hr)) (by
    have := setAll_len rows (ys.take p); rw [List.length_take] at this; omega)
  have wS : ∀ ro' p, wf (σ.set l (.list (rowsM ro')) ++ [.sem (listIt (.lst (rowsM ys)) p)]) := fun ro' p => (hw.rows ro').app fun k _ => by
    simp only [MO.ok, listIt, objSem, MV.ok]; exact ok_rows _ _
  have e0 : σ.set l (.list (rowsM (setAll rows (ys.take 0)))) = σ := by rw [List.take_zero]; exact set_same H.list
  refine exs_cons ?_
  refine ex_if ?_
  refine ts_compare ?_ rfl
  refine ev_local (m := .lst (rowsM ys)) rfl rfl rfl ?_
  refine ev_none ?_
  refine op_isnot_none rfl ?_
  refine tst_bool ?_
  refine ⟨fun _ => ?_, nofun⟩
  walk_at "mv"
  refine ⟨_, rfl, by walk_at "mv_keep", ?_⟩
  walk_at "mv"
  refine ⟨by simp, ?_⟩
  walk_at "mv"
  refine call_isi_tup (b := false) (cs := [.ref 527, .ref 278]) (t := .type "list") FX rfl (by simp [isiTs]) (by simp [isiCs]) rfl ?_
  refine tst_bool ?_
  refine ⟨nofun, fun _ => ?_⟩
  walk_at "mv"
  refine ⟨_, rfl, by walk_at "mv_keep", ?_⟩
  walk_at "mv"
  refine call_isi (b := false) (t := .type "list") FX rfl (by simp [isiTs]) (by simp [isiCs]) rfl ?_
  refine tst_bool ?_
  refine ⟨nofun, fun _ => ?_⟩
  walk_at "mv"
  refine iter_list (l := rowsM ys) rfl ?_
  refine loop_ind (fun m loc' σ' => ∃ p, m = ys.length - p ∧ p ≤ ys.length ∧ loc' = _ ∧ σ' = σ.set l (.list (rowsM (setAll rows (ys.take p)))) ++ [.sem (listIt (.lst (rowsM ys)) p)]) ?_ ys.length ⟨0, rfl, Nat.zero_le _, rfl, by rw [e0]⟩
  rintro m loc' σ' ⟨p, rfl, hp, rfl, rfl⟩
  have hit : ∀ (ro' : List Row) (o : MO), (σ.set l (.list (rowsM ro')) ++ [o])[σ.length]? = some o := fun ro' o => by
    have := lookup_last (σ.set l (.list (rowsM ro'))) o
    rwa [lS] at this
  have sI : ∀ ro' a b, (σ.set l (.list (rowsM ro')) ++ [a]).set σ.length b = σ.set l (.list (rowsM ro')) ++ [b] := fun ro' a b => by
    have := set_last (σ.set l (.list (rowsM ro'))) a b
    rwa [lS] at this
  refine nxt_list (l := rowsM ys) (by omega) (hit _ _) rfl (fun mv hm => ?_) (fun hm => ?_)
  · rw [sI]
    rw [rowsM_get, Option.map_eq_some_iff] at hm
    obtain ⟨r, hr, rfl⟩ := hm
    have hpl := (List.getElem?_eq_some_iff.mp hr).1
    obtain ⟨hP, hk⟩ := hy r (List.mem_of_getElem? hr)
    have e1 : ys.take (p + 1) = ys.take p ++ [r] := by rw [List.take_add_one, hr]; rfl
    refine as_tuple (by omega) rfl (fun _ => ⟨rfl, rfl⟩) ?_
    refine ass_cons ?_ (fun _ => rfl)
    refine as_name rfl ?_
    refine ass_cons ?_ (fun _ => rfl)
    refine as_name rfl ?_
    refine ass_nil ?_
    have H2 := (HS p).app [.sem (listIt (.lst (rowsM ys)) (p + 1))]
    walk_at "mv"
    refine meth_at FX 448 H2.inst ?_
    walk_at "mv"
    refine c_set FX F.re F.f543 F.f448 (by omega) hk H2 (wS _ _) (by have := setAll_len rows (ys.take p); rw [List.length_take] at this; omega) (.str r.2) hP.1 (fun _ => ?_) nofun
    refine ⟨rfl, ?_⟩
    walk_at "mv"
    refine ⟨ys.length - (p + 1), by omega, ?_⟩
    rw [List.set_append_left l _ (by rw [lS]; exact hll), List.set_set, ← setAll_snoc, ← e1]
    refine less_full (by simp) (sub_cons rfl (sub_cons rfl (SubL.refl _))) ?_ (wS _ _) ⟨p + 1, rfl, by omega, rfl, rfl⟩
    simp [locOk, MV.ok, ok_rows]; omega
  · rw [sI]
    have e3 : ys.take p = ys := by
      rw [rowsM_get, Option.map_eq_none_iff, List.getElem?_eq_none_iff] at hm
      exact List.take_of_length_le hm
    rw [e3]
    refine exs_nil ?_
    dsimp only
    refine exs_nil ?_
    dsimp only
    refine exs_nil ?_
    dsimp only
    refine exs_nil ?_
    dsimp only
    refine exs_cons ?_
    refine no_kwargs F (by omega) rfl rfl (fun _ => rfl) (fun _ _ => rfl) ⟨_, _, _, rfl⟩ ?_
    refine exs_nil ?_
    rw [List.append_assoc]
    exact cut_at (σ₀ := σ) (m := .none) (lS _).symm (hw.rows _) rfl hs
end
end
section
open PySem PySem.W PyProof.Rows
section
variable {W : Wd} {Kf : Frag} {σ : Hp} {n : Nat} {K : MV → Hp → Prop} {KE : Xc → Hp → Prop}

/-- one key put in its place: a text, or a row of texts -/
def setOne (rows : List Row) (e : Str × DV) : List Row := match e.2 with
  | .s x => setRows e.1 x rows
  | .l [] => rows
  | .l (x0 :: xs) => addAll e.1 xs (setRows e.1 x0 rows)
def setEach (rows : List Row) (l : List (Str × DV)) : List Row := l.foldl setOne rows
theorem setEach_snoc (rows : List Row) (l : List (Str × DV)) (e : Str × DV) : setEach rows (l ++ [e]) = setOne (setEach rows l) e := by simp [setEach]
def Fine (e : Str × DV) : Prop := e.1.length ≤ 100000 ∧ match e.2 with
  | .s x => Plain x
  | .l xs => ∃ x0 xs', xs = x0 :: xs' ∧ xs'.length ≤ 30 ∧ Plain x0 ∧ ∀ x ∈ xs', Plain x
theorem setOne_ok {rows : List Row} {e : Str × DV} (hr : Short rows) (he : Fine e) : Short (setOne rows e) ∧ (setOne rows e).length ≤ rows.length + 31 := by
  obtain ⟨k, d⟩ := e
  obtain ⟨hk, hd⟩ := he
  cases d with
  | s x =>
    have := setRows_len (key := k) (x := x) rows
    exact ⟨hr.set hk hd.2, by show (setRows k x rows).length ≤ _; omega⟩
  | l xs =>
    obtain ⟨x0, xs', rfl, hl, h0, hx⟩ := hd
    have := setRows_len (key := k) (x := x0) rows
    refine ⟨(hr.set hk h0.2).app fun r hr => ?_, ?_⟩
    · rw [List.mem_map] at hr
      obtain ⟨x, hx', rfl⟩ := hr
      exact ⟨hk, (hx x hx').2⟩
    · show (addAll k xs' (setRows k x0 rows)).length ≤ _
      simp only [addAll, List.length_append, List.length_map]; omega
theorem setEach_ok {rows : List Row} {l : List (Str × DV)} (hr : Short rows) (hl : ∀ e ∈ l, Fine e) : Short (setEach rows l) ∧ (setEach rows l).length ≤ rows.length + 31 * l.length := by
  induction l generalizing rows with
  | nil => exact ⟨hr, by simp [setEach]⟩
  | cons e l ih =>
    obtain ⟨h1, h2⟩ := setOne_ok hr (hl e (.head _))
    obtain ⟨h3, h4⟩ := ih h1 fun e he => hl e (.tail _ he)
    refine ⟨h3, ?_⟩
    simp only [setEach, List.foldl_cons, List.length_cons] at *
    omega

def updLoc (W : Wd) (h : Nat) (arg : MV) : Loc := [("self", .obj h), ("arg", arg), ("kwargs", .fz (dicF W []))]

theorem c_update_dict (F : Pr W Kf) (hn : n ≤ 28) {h l : Nat} {rows : List Row} {ds : List (Str × DV)} (H : HasRows σ h l rows) (hw : wf σ) (hz : rows.length + 31 * ds.length < 900) (hd : ∀ e ∈ ds, Fine e)
    (hs : K .none (σ.set l (.list (rowsM (setEach rows ds))))) : CallM W n (.ref 482) [.obj h, .fz (dicF W ds)] [] σ K KE := by
  refine call_cd (by omega) (CdP.cut ?_)
  obtain ⟨r, Ta, n0, D, hT⟩ := F.f482
  refine fn_call (body := bodyOf (hdrStmt 27)) D F.lim (by omega) rfl ⟨rfl, rfl, rfl⟩ ?_
  have FX := F.toSx
  refine bd_dkw (ps := ["self", "arg", "kwargs"]) FX rfl hT [] (fun x hx => by cases hx) (fun vs hv => ?_) rfl ?_
  · match vs, hv with
    | [a, b], _ => exact ⟨_, rfl, rfl⟩
  refine ⟨rfl, ?_⟩
  have hll : l < σ.length := (List.getElem?_eq_some_iff.mp H.list).1
  have hhl : h < σ.length := (List.getElem?_eq_some_iff.mp H.inst).1
  have lS : ∀ ro' : List Row, (σ.set l (.list (rowsM ro'))).length = σ.length := fun _ => List.length_set
  have eP : ∀ p, Short (setEach rows (ds.take p)) ∧ (setEach rows (ds.take p)).length ≤ rows.length + 31 * (ds.take p).length := fun p => setEach_ok H.short fun e he => hd e (List.mem_of_mem_take he)
  have eL : ∀ p, (setEach rows (ds.take p)).length < 900 := fun p => by have := (eP p).2; rw [List.length_take] at this; omega
  have HS : ∀ p, HasRows (σ.set l (.list (rowsM (setEach rows (ds.take p))))) h l (setEach rows (ds.take p)) := fun p => H.upd (eP p).1 (by have := eL p; omega)
  have wS : ∀ ro' p, wf (σ.set l (.list (rowsM ro')) ++ [.sem (dicIt W ds p)]) := fun ro' p => (hw.rows ro').app fun k _ => rfl
  have e0 : σ.set l (.list (rowsM (setEach rows (ds.take 0)))) = σ := by rw [List.take_zero]; exact set_same H.list
  refine exs_cons ?_
  refine ex_if ?_
  refine ts_compare ?_ rfl
  refine ev_local (m := .fz (dicF W ds)) rfl rfl rfl ?_
  refine ev_none ?_
  refine op_isnot_none_d ?_
  refine tst_bool ?_
  refine ⟨fun _ => ?_, nofun⟩
  walk_at "mv"
  refine ⟨_, rfl, by walk_at "mv_keep", ?_⟩
  walk_at "mv"
  refine ⟨by simp, ?_⟩
  walk_at "mv"
  refine call_isi_dtup (b := false) (cs := [.ref 527, .ref 278]) FX (by simp [isiCs]) rfl ?_
  refine tst_bool ?_
  refine ⟨nofun, fun _ => ?_⟩
  walk_at "mv"
  refine ⟨_, rfl, by walk_at "mv_keep", ?_⟩
  walk_at "mv"
  refine call_isi_d (b := true) FX (by simp [isiCs]) rfl ?_
  refine tst_bool ?_
  refine ⟨fun _ => ?_, nofun⟩
  walk_at "mv"
  refine ⟨_, getM_dict, keep_builtin _, ?_⟩
  walk_at "mv"
  refine call_items ?_
  refine iter_items ?_
  refine loop_ind (fun m loc' σ' => ∃ p, m = ds.length - p ∧ p ≤ ds.length ∧ loc' = _ ∧ σ' = σ.set l (.list (rowsM (setEach rows (ds.take p)))) ++ [.sem (dicIt W ds p)]) ?_ ds.length ⟨0, rfl, Nat.zero_le _, rfl, by rw [e0]⟩
  rintro m loc' σ' ⟨p, rfl, hp, rfl, rfl⟩
  have hit : ∀ (ro' : List Row) (o : MO), (σ.set l (.list (rowsM ro')) ++ [o])[σ.length]? = some o := fun ro' o => by
    have := lookup_last (σ.set l (.list (rowsM ro'))) o
    rwa [lS] at this
  have sI : ∀ ro' a b, (σ.set l (.list (rowsM ro')) ++ [a]).set σ.length b = σ.set l (.list (rowsM ro')) ++ [b] := fun ro' a b => by
    have := set_last (σ.set l (.list (rowsM ro'))) a b
    rwa [lS] at this
  refine nxt_dict rfl (by omega) (hit _ _) (fun x d hm => ?_) (fun hm => ?_)
  · rw [sI]
    have hpl := (List.getElem?_eq_some_iff.mp hm).1
    obtain ⟨hk, hdv⟩ := hd (x, d) (List.mem_of_getElem? hm)
    have e1 : ds.take (p + 1) = ds.take p ++ [(x, d)] := by rw [List.take_add_one, hm]; rfl
    refine as_tuple (by omega) rfl (fun _ => ⟨rfl, rfl⟩) ?_
    refine ass_cons ?_ (fun _ => rfl)
    refine as_name rfl ?_
    refine ass_cons ?_ (fun _ => rfl)
    refine as_name rfl ?_
    refine ass_nil ?_
    have H2 := (HS p).app [.sem (dicIt W ds (p + 1))]
    have fin : ∀ (loc : Loc), SubL (updLoc W h (.fz (dicF W ds))) loc → ∃ m', m' < ds.length - p ∧ Less (max (σ.length + 1) (σ ++ [MO.sem (dicIt W ds 0)]).length) (fun loc' σ' => ∃ p, m' = ds.length - p ∧ p ≤ ds.length ∧ loc' = (updLoc W h (.fz (dicF W ds))) ∧ σ' = σ.set l (.list (rowsM (setEach rows (ds.take p)))) ++ [.sem (dicIt W ds p)]) loc (σ.set l (.list (rowsM (setOne (setEach rows (ds.take p)) (x, d)))) ++ [.sem (dicIt W ds (p + 1))]) := fun loc hsub => by
      refine ⟨ds.length - (p + 1), by omega, ?_⟩
      rw [← setEach_snoc, ← e1]
      refine less_full (by simp) hsub ?_ (wS _ _) ⟨p + 1, rfl, by omega, rfl, rfl⟩
      simp [locOk, updLoc, MV.ok]; omega
    walk_at "mv"
    refine ⟨_, rfl, by walk_at "mv_keep", ?_⟩
    walk_at "mv"
    refine ⟨by simp, ?_⟩
    walk_at "mv"
    cases d with
    | s y =>
      refine call_isi_tup (b := false) (cs := [.type "list", .type "tuple", .type "set"]) (t := .type "str") FX rfl (by simp [isiTs]) (by simp [isiCs]) rfl ?_
      refine tst_bool ?_
      refine ⟨nofun, fun _ => ?_⟩
      walk_at "mv"
      refine meth_at FX 448 H2.inst ?_
      walk_at "mv"
      refine c_set FX F.re F.f543 F.f448 (by omega) hk H2 (wS _ _) (by have := eL p; omega) (.str y) hdv.1 (fun _ => ?_) nofun
      refine ⟨rfl, ?_⟩
      walk_at "mv"
      rw [List.set_append_left l _ (by rw [lS]; exact hll), List.set_set]
      refine fin _ ?_
      exact sub_cons rfl (sub_cons rfl (SubL.refl _))
    | l ys =>
      obtain ⟨x0, xs', rfl, hl, hx0, hxs⟩ := hdv
      refine call_isi_tup (b := true) (cs := [.type "list", .type "tuple", .type "set"]) (t := .type "list") FX rfl (by simp [isiTs]) (by simp [isiCs]) rfl ?_
      refine tst_bool ?_
      refine ⟨fun _ => ?_, nofun⟩
      walk_at "mv"
      refine meth_at FX 455 H2.inst ?_
      walk_at "mv"
      refine c_setlist F (by omega) hk H2 (wS _ _) (by have := eL p; omega) hx0 hxs ?_
      refine ⟨rfl, ?_⟩
      walk_at "mv"
      rw [List.set_append_left l _ (by rw [lS]; exact hll), List.set_set]
      refine fin _ ?_
      exact sub_cons rfl (sub_cons rfl (SubL.refl _))
  · rw [sI]
    have e3 : ds.take p = ds := by
      rw [List.getElem?_eq_none_iff] at hm
      exact List.take_of_length_le hm
    rw [e3]
    refine exs_nil ?_
    dsimp only
    refine exs_nil ?_
    dsimp only
    refine exs_nil ?_
    dsimp only
    refine exs_nil ?_
    dsimp only
    refine exs_cons ?_
    refine no_kwargs F (by omega) rfl rfl (fun _ => rfl) (fun _ _ => rfl) ⟨_, _, _, rfl⟩ ?_
    refine exs_nil ?_
    rw [List.append_assoc]
    exact cut_at (σ₀ := σ) (m := .none) (lS _).symm (hw.rows _) rfl hs
end
end
section
open PySem PySem.W PyProof.Rows
section
variable {W : Wd} {Kf : Frag} {σ : Hp} {n : Nat} {K : MV → Hp → Prop} {KE : Xc → Hp → Prop}

noncomputable def keysT (W : Wd) (b h l : Nat) (ys : List Row) (p : Nat) : List MO :=
  if p = 0 then [keysS W h l ys false 2000 ([], 0)] else [keysS W h l ys false (2000 - p) ([b + 1], p), itemsS W 45 h l ys false (2000 - p) ([b + 1 + 1], p), .sem (listIt (.obj l) p)]

theorem nxt_keys (hn : n < 43) (hlim : W.base.NoLimit) {t : Expr} {h l b p : Nat} {ys : List Row} {KS : MV → Hp → Prop} {KN : Hp → Prop} (hz : ys.length < 1000) (hb : σ.length = b) (H : HasRows σ h l ys) (hw : wf σ) (hp : p ≤ ys.length)
    (hs : ∀ r, ys[p]? = some r → KS (.str r.1) (σ ++ keysT W b h l ys (p + 1))) (he : ys[p]? = none → ∀ D, wf (σ ++ D) → KN (σ ++ D)) : NxtP W n t b (σ ++ keysT W b h l ys p) KS KN := by
  subst hb
  have hll : l < σ.length := (List.getElem?_eq_some_iff.mp H.list).1
  have hhl : h < σ.length := (List.getElem?_eq_some_iff.mp H.inst).1
  unfold keysT at hs ⊢
  by_cases h0 : p = 0
  · subst h0
    rw [if_pos rfl]
    have hk : (σ ++ [keysS W h l ys false 2000 ([], 0)])[σ.length]? = some (projS W (scopeOf (hdrStmt 8)) (keysLoc h false) h l ys false (keyY false) (1999 + 1) ([], 0)) := lookup_last _ _
    refine nxt_proj0 (f := keyY false) hn hlim (H.app _) (hw.app fun k hk => by simp [MO.ok, genS, locOk, keysLoc, MV.ok]; omega) hk (fun r hr => ?_) (fun hr => ?_)
    · rw [set_last, show (σ ++ [keysS W h l ys false 2000 ([], 0)]).length = σ.length + 1 by simp]
      have := hs r hr
      rw [if_neg (by omega), app3] at this
      exact this
    · rw [set_last, ← app3]
      exact he hr _ (by rw [app3]; exact ((hw.app fun k _ => rfl).app fun k _ => rfl).app fun k _ => rfl)
  · rw [if_neg h0, app3]
    have gt := get_tail σ (keysS W h l ys false (2000 - p) ([σ.length + 1], p)) (itemsS W 45 h l ys false (2000 - p) ([σ.length + 1 + 1], p)) (.sem (listIt (.obj l) p))
    have hk : (σ ++ [keysS W h l ys false (2000 - p) ([σ.length + 1], p)] ++ [itemsS W 45 h l ys false (2000 - p) ([σ.length + 1 + 1], p)] ++ [.sem (listIt (.obj l) p)])[σ.length]? = some (projS W (scopeOf (hdrStmt 8)) (keysLoc h false) h l ys false (keyY false) (2000 - (p + 1) + 1) ([σ.length + 1], p)) := by
      rw [show 2000 - (p + 1) + 1 = 2000 - p by omega]; exact gt.1
    refine nxt_proj (f := keyY false) hn hlim (((H.app _).app _).app _) hk gt.2.1 gt.2.2 hp (by omega) (by omega) (fun r hr => ?_) (fun hr => ?_)
    · rw [(set_tail σ _ _ _ _ 0).2.2.2, (set_tail σ _ _ _ _ 0).2.2.1, (set_tail σ _ _ _ _ 0).2.1]
      have := hs r hr
      rw [if_neg (by omega), app3] at this
      exact this
    · rw [(set_tail σ _ _ _ _ 0).2.2.2, (set_tail σ _ _ _ _ 0).2.2.1, (set_tail σ _ _ _ _ 0).2.1, ← app3]
      exact he hr _ (by rw [app3]; exact ((hw.app fun k _ => rfl).app fun k _ => rfl).app fun k _ => rfl)
theorem wf_keysT {b h l : Nat} {ys : List Row} (hb : σ.length = b) (hh : h < σ.length) (hl : l < σ.length) (hw : wf σ) (p : Nat) : wf (σ ++ keysT W b h l ys p) := by
  subst hb
  refine hw.apps fun k hk => ?_
  unfold keysT at hk ⊢
  by_cases h0 : p = 0
  · rw [if_pos h0] at hk ⊢
    simp only [List.length_append, List.length_cons, List.length_nil] at hk
    simp [MO.ok, genS, locOk, keysLoc, MV.ok]; omega
  · rw [if_neg h0] at hk ⊢
    simp only [List.length_append, List.length_cons, List.length_nil] at hk
    simp [MO.ok, genS, listIt, objSem, locOk, keysLoc, itemsLc, MV.ok]; omega

def setVals (rows : List Row) (key : Str) : List Str → List Row
  | [] => rows
  | x0 :: xs => addAll key xs (setRows key x0 rows)
def setOthers (ys : List Row) (rows : List Row) (zs : List Row) : List Row := zs.foldl (fun rs r => setVals rs r.1 (getAll r.1 ys)) rows
theorem setOthers_snoc (ys rows zs : List Row) (r : Row) : setOthers ys rows (zs ++ [r]) = setVals (setOthers ys rows zs) r.1 (getAll r.1 ys) := by simp [setOthers]
theorem getAll_mem {ys : List Row} (hc : Clean ys) {k x : Str} (h : x ∈ getAll k ys) : Plain x := by
  rw [getAll, List.mem_map] at h
  obtain ⟨r, hr, rfl⟩ := h
  exact (hc r (List.mem_filter.mp hr).1).1
theorem getAll_some {ys : List Row} {r : Row} (h : r ∈ ys) : ∃ x0 xs, getAll r.1 ys = x0 :: xs ∧ xs.length < ys.length := by
  have hm : r.2 ∈ getAll r.1 ys := List.mem_map.mpr ⟨r, List.mem_filter.mpr ⟨h, by simp⟩, rfl⟩
  have hl : (getAll r.1 ys).length ≤ ys.length := by rw [getAll, List.length_map]; exact List.length_filter_le _ _
  cases hg : getAll r.1 ys with
  | nil => rw [hg] at hm; cases hm
  | cons a l => rw [hg] at hl; exact ⟨a, l, rfl, hl⟩
theorem setVals_ok {rows : List Row} {key : Str} {vs : List Str} (hr : Short rows) (hk : key.length ≤ 100000) (hv : ∀ x ∈ vs, Plain x) : Short (setVals rows key vs) ∧ (setVals rows key vs).length ≤ rows.length + vs.length := by
  cases vs with
  | nil => exact ⟨hr, Nat.le_refl _⟩
  | cons x0 xs =>
    have := setRows_len (key := key) (x := x0) rows
    refine ⟨(hr.set hk (hv x0 (.head _)).2).app fun r hr => ?_, ?_⟩
    · rw [List.mem_map] at hr
      obtain ⟨x, hx', rfl⟩ := hr
      exact ⟨hk, (hv x (.tail _ hx')).2⟩
    · simp only [setVals, addAll, List.length_append, List.length_map, List.length_cons]; omega
theorem setOthers_ok {ys rows : List Row} (hc : Clean ys) (h5 : ys.length ≤ 5) : ∀ {zs : List Row}, (∀ z ∈ zs, z ∈ ys) → ∀ {rows : List Row}, Short rows → Short (setOthers ys rows zs) ∧ (setOthers ys rows zs).length ≤ rows.length + 5 * zs.length
  | [], _, rows, hr => ⟨hr, by simp [setOthers]⟩
  | z :: zs, hz, rows, hr => by
    have hk := (hc z (hz z (.head _))).2
    have hl : (getAll z.1 ys).length ≤ ys.length := by rw [getAll, List.length_map]; exact List.length_filter_le _ _
    obtain ⟨h1, h2⟩ := setVals_ok (vs := getAll z.1 ys) hr hk fun x hx => getAll_mem hc hx
    obtain ⟨h3, h4⟩ := setOthers_ok (rows := rows) hc h5 (zs := zs) (fun z' hz' => hz z' (.tail _ hz')) h1
    refine ⟨h3, ?_⟩
    have : (setOthers ys rows (z :: zs)).length = (setOthers ys (setVals rows z.1 (getAll z.1 ys)) zs).length := rfl
    rw [this, List.length_cons]
    omega

theorem c_update_inst (F : Pr W Kf) (hn : n ≤ 28) {h l h' l' : Nat} {rows ys : List Row} (H : HasRows σ h l rows) (H' : HasRows σ h' l' ys) (ne1 : l ≠ l') (hw : wf σ) (hz : rows.length < 800) (h5 : ys.length ≤ 5) (hc : Clean ys)
    (hs : K .none (σ.set l (.list (rowsM (setOthers ys rows ys))))) : CallM W n (.ref 482) [.obj h, .obj h'] [] σ K KE := by
  refine call_cd (by omega) (CdP.cut ?_)
  obtain ⟨r, Ta, n0, D, hT⟩ := F.f482
  refine fn_call (body := bodyOf (hdrStmt 27)) D F.lim (by omega) rfl ⟨rfl, rfl, rfl⟩ ?_
  have FX := F.toSx
  refine bd_dkw (ps := ["self", "arg", "kwargs"]) FX rfl hT [] (fun x hx => by cases hx) (fun vs hv => ?_) rfl ?_
  · match vs, hv with
    | [a, b], _ => exact ⟨_, rfl, rfl⟩
  refine ⟨rfl, ?_⟩
  have hll : l < σ.length := (List.getElem?_eq_some_iff.mp H.list).1
  have hhl : h < σ.length := (List.getElem?_eq_some_iff.mp H.inst).1
  have hll' : l' < σ.length := (List.getElem?_eq_some_iff.mp H'.list).1
  have hhl' : h' < σ.length := (List.getElem?_eq_some_iff.mp H'.inst).1
  have ne2 : h' ≠ l := fun q => by have := H'.inst; rw [q, H.list] at this; cases this
  have lS : ∀ ro' : List Row, (σ.set l (.list (rowsM ro'))).length = σ.length := fun _ => List.length_set
  have eP : ∀ p, Short (setOthers ys rows (ys.take p)) ∧ (setOthers ys rows (ys.take p)).length ≤ rows.length + 5 * (ys.take p).length := fun p => setOthers_ok (rows := rows) hc h5 (fun z hz => List.mem_of_mem_take hz) H.short
  have eL : ∀ p, (setOthers ys rows (ys.take p)).length < 900 := fun p => by have := (eP p).2; rw [List.length_take] at this; omega
  have HS : ∀ p, HasRows (σ.set l (.list (rowsM (setOthers ys rows (ys.take p))))) h l (setOthers ys rows (ys.take p)) := fun p => H.upd (eP p).1 (by have := eL p; omega)
  have HS' : ∀ ro', HasRows (σ.set l (.list (rowsM ro'))) h' l' ys := fun ro' => H'.set ne2 (Ne.symm ne1) _
  have wS : ∀ ro' p, wf (σ.set l (.list (rowsM ro')) ++ keysT W σ.length h' l' ys p) := fun ro' p => wf_keysT (lS _) (by rw [lS]; exact hhl') (by rw [lS]; exact hll') (hw.rows ro') p
  have e0 : σ.set l (.list (rowsM (setOthers ys rows (ys.take 0)))) = σ := by rw [List.take_zero]; exact set_same H.list
  walk_at "mv"
  refine op_isnot_none rfl ?_
  refine tst_bool ?_
  refine ⟨fun _ => ?_, nofun⟩
  walk_at "mv"
  refine ⟨_, rfl, by walk_at "mv_keep", ?_⟩
  walk_at "mv"
  refine ⟨by simp, ?_⟩
  walk_at "mv"
  refine call_isi_tup (b := true) (cs := [.ref 527, .ref 278]) (t := .ref 527) FX (by simp only [typM, H'.inst]) (by simp [isiTs]) (by simp [isiCs]) rfl ?_
  refine tst_bool ?_
  refine ⟨fun _ => ?_, nofun⟩
  walk_at "mv"
  refine meth_at FX 350 H'.inst ?_
  walk_at "mv"
  refine c_keys0 (rows := ys) (l := l') F (by omega) (by omega) ?_
  refine iter_gen (lookup_last _ _) ?_
  have eT : ∀ p, p ≤ 1 → (keysT W σ.length h' l' ys p).length ≥ 1 := fun p _ => by unfold keysT; split <;> simp
  refine loop_ind (fun m loc' σ' => ∃ p, m = ys.length - p ∧ p ≤ ys.length ∧ loc' = _ ∧ σ' = σ.set l (.list (rowsM (setOthers ys rows (ys.take p)))) ++ keysT W σ.length h' l' ys p) ?_ ys.length ⟨0, rfl, Nat.zero_le _, rfl, by rw [e0]; unfold keysT; rw [if_pos rfl]⟩
  rintro m loc' σ' ⟨p, rfl, hp, rfl, rfl⟩
  refine nxt_keys (by omega) F.lim (by omega) (lS _) (HS' _) (hw.rows _) hp (fun r hr => ?_) (fun hr D hD => ?_)
  · have hpl := (List.getElem?_eq_some_iff.mp hr).1
    have hmem := List.mem_of_getElem? hr
    obtain ⟨hP, hk⟩ := hc r hmem
    obtain ⟨x0, xs, hga, hxl⟩ := getAll_some hmem
    have e1 : ys.take (p + 1) = ys.take p ++ [r] := by rw [List.take_add_one, hr]; rfl
    refine as_name rfl ?_
    have H2 := (HS p).app (keysT W σ.length h' l' ys (p + 1))
    have H2' := (HS' (setOthers ys rows (ys.take p))).app (keysT W σ.length h' l' ys (p + 1))
    walk_at "mv"
    refine meth_at FX 455 H2.inst ?_
    walk_at "mv"
    refine meth_at FX 327 H2'.inst ?_
    walk_at "mv"
    refine c_getlist FX F.f327 F.f415 (by omega) hk H2' (wS _ _) ?_
    rw [hga]
    walk_at "mv"
    refine c_setlist F (by omega) hk H2 (wS _ _) (by have := eL p; omega) (getAll_mem hc (k := r.1) (by rw [hga]; exact .head _)) (fun x hx => getAll_mem hc (k := r.1) (by rw [hga]; exact .tail _ hx)) ?_
    refine ⟨rfl, ?_⟩
    walk_at "mv"
    refine ⟨ys.length - (p + 1), by omega, ?_⟩
    rw [List.set_append_left l _ (by rw [lS]; exact hll), List.set_set]
    have e2 : addAll r.1 xs (setRows r.1 x0 (setOthers ys rows (ys.take p))) = setOthers ys rows (ys.take (p + 1)) := by
      rw [e1, setOthers_snoc, hga]; rfl
    rw [e2]
    refine less_full ?_ (sub_cons rfl (SubL.refl _)) ?_ (wS _ _) ⟨p + 1, rfl, by omega, rfl, rfl⟩
    · rw [List.length_append, List.length_append, lS]
      have : (keysT W σ.length h' l' ys (p + 1)).length ≥ 1 := by unfold keysT; split <;> simp
      simp; omega
    · simp [locOk, MV.ok]; omega
  · have e3 : ys.take p = ys := by
      rw [List.getElem?_eq_none_iff] at hr
      exact List.take_of_length_le hr
    rw [e3]
    refine exs_nil ?_
    dsimp only
    refine exs_nil ?_
    dsimp only
    refine exs_nil ?_
    dsimp only
    refine exs_cons ?_
    refine no_kwargs F (by omega) rfl rfl (fun _ => rfl) (fun _ _ => rfl) ⟨_, _, _, rfl⟩ ?_
    refine exs_nil ?_
    rw [List.append_assoc]
    exact cut_at (σ₀ := σ) (m := .none) (lS _).symm (hw.rows _) rfl hs
end
end
section
open PySem PySem.W PyProof.Rows
section
variable {W : Wd} {c : Cx} {g g₁ : Heap} {ρ ρ₁ : Rho} {loc loc' : Loc} {σ σ' : Hp} {s s₁ : Shared} {n : Nat} {sc scope : Scope}
variable {K : Fl → Loc → Hp → Prop} {KE : Xc → Loc → Hp → Prop}

/-- a local name given a list comprehension: the name is bound while the comprehension's frame still stands -/
theorem ex_assign_comp {x : Str} {npos apos : Pos} {elt target iter : Expr} {ifs : List Expr} {pos : Pos} (hx : sc.names.lookup x = some .local) (hsw : ∀ env : Env, env.scope = sc → swapsWith (.ListComp elt [⟨target, iter, ifs, 0⟩] scope pos) (some (.Name x npos)) apos.line env = pure true) (hok : compOk sc scope = true) (hcap : CapL sc scope loc' loc) (hs : ∀ env x, foldedSetIterable iter env x = pure x)
    (h : EvP W n sc iter loc σ (fun m σ₁ => IterP W n m σ₁ (fun k σ₂ => (∃ x, σ₂[k]? = some x) ∧ IterP W n (.obj k) (σ₂ ++ [.list []]) (fun k' σ' => k' = k ∧ σ' = σ₂ ++ [.list []]) ∧ CompP W n (compScope sc scope) (.ListComp elt [⟨target, iter, ifs, 0⟩] scope pos) k σ₂.length loc' (σ₂ ++ [.list []]) (fun σ₄ =>
      ∃ items, σ₄[σ₂.length]? = some (.list items) ∧ (σ₄.take σ₁.length).all (·.ok σ₁.length) = true ∧ oksL σ₁.length items = true ∧ σ₁.length ≤ σ₂.length ∧ K .next ((x, .lst items) :: loc) (σ₄.take σ₁.length)))) (fun x σ' => KE x loc σ')) :
    ExP W n sc (.Assign [.Name x npos] (.ListComp elt [⟨target, iter, ifs, 0⟩] scope pos) apos) loc σ K KE := by with_unfolding_all exact (fun c g ρ s CS G => by
  have C := CS.toCOk
  rw [exec_Assign_Name_used _ _ _ _ (hsw _ C.scE), arm_evalThenUse_ListComp]
  refine wpAny_bind (wpAny_standAt ?_)
  refine wpAny_bind (wpAny_bind (wpAny_mono (Q := fun _ s' => SPost W c g ρ s K .next s') ?_ (fun _ s' q => wpAny_pure (wpAny_pure q)) fun _ _ x => x))
  refine wpAny_comprehension_free rfl (hs _) (closure_ok C.scE hok C.cellx) (compOk.kind hok) (fun x hx hl => lookup_nodup (compOk.nodup hok) (by rw [← hl]; exact hx)) (wpAny_mono (h c g ρ s C G) (fun v s₁ q => ?_) fun _ _ x => x.toS)
  obtain ⟨m, σ₁, g₁, ρ₁, k₁, st₁, G₁, r₁⟩ := q
  refine wpAny_mono (k₁ sc c g₁ ρ₁ loc s₁ v _ C G₁ r₁) (fun it s₂ q => ?_) fun _ _ x => x
  obtain ⟨m', σ₂, g₂, ρ₂, ⟨k, rfl, ⟨xk, hxk⟩, hI, hL⟩, st₂, G₂, r₂⟩ := q
  unfold newList
  have fr2 : s₂.heap.get? s₂.heap.objs.size = none := Heap.get?_none_of_le (Nat.le_refl _)
  obtain ⟨G₃, st₃⟩ := G₂.allocM (o := { cls := .type "list", data := .seq #[] }) (mo := .list []) rfl (t := s₂.toks) (fun h' e _ => ORel.list (vs := []) e .nil) rfl
  refine wpAny_newObj_type ?_ (Nat.zero_le _)
  have hd3 : (ρ₂ ++ [(s₂.heap.objs.size, s₂.heap.objs.size)])[σ₂.length]? = some (s₂.heap.objs.size, s₂.heap.objs.size) := by rw [G₂.len]; simp
  generalize hs3 : ({ s₂ with heap := s₂.heap.push { cls := .type "list", data := .seq #[] }, toks := s₂.toks } : Shared) = s₃ at G₃ st₃
  generalize hρ3 : ρ₂ ++ [(s₂.heap.objs.size, s₂.heap.objs.size)] = ρ₃ at G₃ st₃ hd3
  have rd : VRel g₂ ρ₃ (.obj σ₂.length) (.ref s₂.heap.objs.size) := .obj hd3
  have frC : s₃.heap.get? s₃.heap.objs.size = none := Heap.get?_none_of_le (Nat.le_refl _)
  refine wpAny_newFunctionEnv (compOk.noCell hok) (by intro y hy; simp at hy) (fun h₄ hns hsb => ?_) (compOk.kind hok)
  have keep4 : ∀ b o, s₃.heap.get? b = some o → h₄.get? b = some o := fun b o e => by
    have nb : b ≠ s₃.heap.objs.size := fun q => by rw [q, frC] at e; cases e
    exact (hsb.2 b nb).trans (Heap.get?_push_of_some _ e)
  have C' := C.comp G₃ hok frC
  have G₄ := G₃.comp (h' := h₄) (t := s₃.toks + ([] : List (Str × Value)).length) C hok frC ⟨_, hns⟩ keep4 hcap
  have r3 := r₂.mono st₃.ge st₃.re
  have fin : ∀ s₄' g₄' ρ₄' v', Step (compCx c scope s₃.heap s₃.heap.objs.size) g₂ ρ₃ { s₃ with heap := h₄, toks := s₃.toks + ([] : List (Str × Value)).length } g₄' ρ₄' s₄' → Good W (compCx c scope s₃.heap s₃.heap.objs.size) g₄' ρ₄' loc' (σ₂ ++ [.list []]) s₄' → VRel g₄' ρ₄' (.obj k) v' →
      codeAny (Mo W) c.A (.compLoop (.ListComp elt [⟨target, iter, ifs, 0⟩] scope pos) 0 v' (.ref s₂.heap.objs.size) (compCx c scope s₃.heap s₃.heap.objs.size).env)
        (compPost (Mo W) c.A (SXPost W c g ρ s KE) (some (assign (.Name x npos) c.env)) (fun _ s' => SPost W c g ρ s K .next s') (.ref s₂.heap.objs.size) s₃.heap.objs.size) s₄' := by
    intro s₄' g₄' ρ₄' v' st4 G4 r4
    refine codeAny_mono (hL (compCx c scope s₃.heap s₃.heap.objs.size) g₄' ρ₄' s₄' v' _ C' G4 r4 (rd.mono st4.ge st4.re)) fun r s₅ hr => ?_
    obtain ⟨f, rfl, l₅, σ₅, g₅, ρ₅, ⟨items, hit, hok1, hok2, hle, hK⟩, st₅, G₅⟩ := hr
    obtain ⟨mC, hmC⟩ := G₅.ns.1
    obtain ⟨G₆, st₆⟩ := G₃.compDone C hok frC keep4 (st4.trans st₅) G₅ (h' := s₅.heap) (Heap.SameBut.refl _ _)
    have G₆ : Good W c g₅ ρ₅ loc σ₅ s₅ := G₆
    have st26 := st₃.trans st₆
    have hl1 : σ₁.length = ρ₁.length := G₁.len
    have hk2 : ρ₁.length ≤ σ₁.length := by omega
    -- the accumulator leaves the handles and is frozen
    have rd6 : VRel g₅ ρ₅ (.obj σ₂.length) (.ref s₂.heap.objs.size) := rd.mono (st4.trans st₅).ge (st4.trans st₅).re
    obtain ⟨⟨a, a2⟩, hpd, epd⟩ := rd6.obj_inv
    have epd : a = s₂.heap.objs.size := epd
    subst epd
    have zz := G₆.objs _ _ _ hpd hit
    obtain ⟨vs, n', ea, hvs⟩ : ∃ vs n', s₅.heap.get? s₂.heap.objs.size = some (lstObj vs n') ∧ VRels g₅ ρ₅ items vs := by
      cases zz with
      | list e hv => exact ⟨_, _, e, hv⟩
    have G₇ := G₆.take (k := σ₁.length) (fun x mv e => G₁.locOk hk2 x mv e) hok1
    have st₇ := (st₂.trans st26).take (k := σ₁.length) hk2
    have nin : ∀ p ∈ ρ₅.take σ₁.length, p.1 ≠ s₂.heap.objs.size ∧ p.2 ≠ s₂.heap.objs.size := fun p hp => by
      obtain ⟨j, hj, ej⟩ := List.mem_iff_getElem.mp hp
      have hj' : j < σ₁.length := by rw [List.length_take] at hj; omega
      have ej' : ρ₅[j]? = some p := by rw [← ej, List.getElem_take, List.getElem?_eq_getElem]
      have := G₆.apart ej' hpd (by omega)
      exact ⟨this.1, this.2.2.1⟩
    have Pa : Priv c g₅ (ρ₅.take σ₁.length) s₂.heap.objs.size := by
      have hm := List.mem_of_getElem? hpd
      have P2 := G₂.fresh fr2
      exact ⟨(G₆.gρ _ hm).1, nin, P2.l, P2.cl, P2.k⟩
    obtain ⟨G₈, st₈, e₈, le₈⟩ := G₇.freeze st₇ (fun b o e P q => by
      have := (st₂.ke b o e P).1
      rw [q, fr2] at this; cases this) Pa ea
    have st₈ : Step c g₁ ρ₁ s₁ (hput g₅ s₂.heap.objs.size (lstObj vs n')) (ρ₅.take σ₁.length) s₅ := st₈
    have rv : VRel (hput g₅ s₂.heap.objs.size (lstObj vs n')) (ρ₅.take σ₁.length) (.lst items) (.ref s₂.heap.objs.size) := .lst e₈ ((hvs.take hok2).mono le₈ (RLe.refl _))
    have PC3 := G₃.fresh frC
    have hnsC := G₅.ns.2
    have neC : s₂.heap.objs.size ≠ s₃.heap.objs.size := (hnsC.2 _ (List.mem_of_getElem? hpd)).1
    have PC : Priv c (hput g₅ s₂.heap.objs.size (lstObj vs n')) (ρ₅.take σ₁.length) s₃.heap.objs.size := ⟨hput_none rfl hnsC.1 (Ne.symm neC), fun p hp => hnsC.2 p (List.mem_of_mem_take hp), PC3.l, PC3.cl, PC3.k⟩
    refine wpAny_assign_Name (store_ok C G₈ rv (by rw [hx]; rfl) (fun q => by rw [hx] at q; cases q) fun s' G' st' => ?_)
    obtain ⟨oC, es, ep, hoC, hrC⟩ := hmC
    refine ⟨mC, ⟨oC, es, ep, (st'.ke _ _ hoC PC).1, hrC⟩, fun h' hsb' => ?_⟩
    have stA := (st₁.trans st₈).trans st'
    have stB := (st₁.trans st₂).trans st₃
    refine ⟨.next, (x, .lst items) :: loc, σ₅.take σ₁.length, _, _, hK, ⟨stA.ge, stA.re, fun b o e P => ?_⟩, G'.move (fun b o e hb => (hsb'.2 b (fun q => hb (q ▸ PC))).trans e) rfl rfl, .next⟩
    obtain ⟨e1, P1⟩ := stA.ke b o e P
    refine ⟨(hsb'.2 b fun q => ?_).trans e1, P1⟩
    have := (stB.ke b o e P).1
    rw [q, frC] at this; cases this
  refine codeAny_compStart_list (fin _ g₂ ρ₃ it .refl G₄ r3) ?_
  refine wpAny_mono (hI (compScope sc scope) (compCx c scope s₃.heap s₃.heap.objs.size) g₂ ρ₃ loc' _ it _ C' G₄ r3) (fun it' s₄' q => ?_) fun _ _ x => x
  obtain ⟨m'', σ4, g₄', ρ₄', ⟨k', rfl, rfl, rfl⟩, st4, G4, r4⟩ := q
  exact fin s₄' g₄' ρ₄' it' st4 G4 r4)
end
end
section
open PySem PySem.W PyProof.Rows
mutual
inductive DatM : MV → Dat → Prop
  | none : DatM .none .none
  | str (x) : DatM (.str x) (.str x)
  | int (i) : DatM (.int i) (.int i)
  | tup {ms ds} : DatMs ms ds → DatM (.tup ms) (.tuple ds)
  | lst {ms ds} : DatMs ms ds → DatM (.lst ms) (.list ds)
inductive DatMs : List MV → List Dat → Prop
  | nil : DatMs [] []
  | cons {m d ms ds} : DatM m d → DatMs ms ds → DatMs (m :: ms) (d :: ds)
end

section
variable {g : Heap} {ρ : Rho}
mutual
theorem DatM.reads : ∀ {m : MV} {d : Dat} {v : Value}, DatM m d → VRel g ρ m v → ∃ as, Reads g v (kqdP d) as
  | _, _, _, .none, .none => ⟨_, .none⟩
  | _, _, _, .str x, .str _ t => ⟨_, .str x t⟩
  | _, _, _, .int i, .int _ t => ⟨_, .int i t⟩
  | _, _, _, .tup hs, .tup e rs => by
    obtain ⟨as, h⟩ := hs.reads rs
    exact ⟨as, .tuple e rfl rfl (by simpa [kqdP] using h)⟩
  | _, _, _, .lst hs, .lst e rs => by
    obtain ⟨as, h⟩ := hs.reads rs
    exact ⟨_, .list e rfl rfl (by simpa [kqdP] using h)⟩
theorem DatMs.reads : ∀ {ms : List MV} {ds : List Dat} {vs : List Value}, DatMs ms ds → VRels g ρ ms vs → ∃ as, ReadsAll g vs (kqdPs ds) as
  | _, _, _, .nil, .nil => ⟨_, .nil⟩
  | _, _, _, .cons h hs, .cons r rs => by
    obtain ⟨as, x⟩ := h.reads r
    obtain ⟨bs, y⟩ := hs.reads rs
    exact ⟨_, .cons x y⟩
end
end

section
variable {W : Wd} {Kf : Frag} {c : Cx} {g g₁ : Heap} {ρ ρ₁ : Rho} {loc loc' : Loc} {σ σ' : Hp} {s s₁ : Shared} {n : Nat} {sc scope : Scope}
variable {K : MV → Hp → Prop} {KE : Xc → Hp → Prop}

theorem shaped_dat {d : Dat} (h : kqdOk 8 d = true) : SeqAt.shaped (kqdP d) = true := by
  have l := kqd_lay 8 d h
  unfold SeqAt.shaped; rw [l.1, Bool.true_and]; exact decide_eq_true (Nat.le_trans l.2 (by decide))
theorem units_ok (C : COk W n sc c) (hn : n % 1000 ≤ 60) : c.A.units + 64 < cLine := by
  have := C.un
  show _ < 9900
  omega

theorem op_eq_dat {a b : MV} {da db : Dat} {q : Bool} (hn : n % 1000 ≤ 60) (h1 : DatM a da) (h2 : DatM b db) (k1 : kqdOk 8 da = true) (k2 : kqdOk 8 db = true) (hq : q = true ↔ da = db) (h : K (.bool q) σ) : Op2 W n (compareOp .Eq) a b σ K KE := by with_unfolding_all exact (fun sc c g ρ loc s v₁ v₂ C G r₁ r₂ => by
  obtain ⟨as, ra⟩ := h1.reads (r₁.mono G.gh (RLe.refl _))
  obtain ⟨bs, rb⟩ := h2.reads (r₂.mono G.gh (RLe.refl _))
  have e : PyData.eqv (kqdP da) (kqdP db) = q := by
    have := kqd_eqv 8 da db 8 k1 k2
    rw [← hq] at this
    exact Bool.eq_iff_iff.mpr this
  refine eq_dataH ra rb (shaped_dat k1) (shaped_dat k2) (units_ok C hn) ?_
  rw [e]; exact Post.now G (.bool _) h)
theorem op_ne_dat {a b : MV} {da db : Dat} {q : Bool} (hn : n % 1000 ≤ 60) (h1 : DatM a da) (h2 : DatM b db) (k1 : kqdOk 8 da = true) (k2 : kqdOk 8 db = true) (hq : q = true ↔ da = db) (h : K (.bool (!q)) σ) : Op2 W n (compareOp .NotEq) a b σ K KE := by with_unfolding_all exact (fun sc c g ρ loc s v₁ v₂ C G r₁ r₂ => by
  obtain ⟨as, ra⟩ := h1.reads (r₁.mono G.gh (RLe.refl _))
  obtain ⟨bs, rb⟩ := h2.reads (r₂.mono G.gh (RLe.refl _))
  have e : PyData.eqv (kqdP da) (kqdP db) = q := by
    have := kqd_eqv 8 da db 8 k1 k2
    rw [← hq] at this
    exact Bool.eq_iff_iff.mpr this
  refine ne_dataH ra rb (shaped_dat k1) (shaped_dat k2) (units_ok C hn) ?_
  rw [e]; exact Post.now G (.bool _) h)

def intsM (ns : List Int) : List MV := ns.map .int
def rowD (r : Row) : Dat := .tuple [.str r.1, .str r.2]
def rowsD (rows : List Row) : List Dat := rows.map rowD
def strsD (xs : List Str) : List Dat := xs.map .str
def intsD (ns : List Int) : List Dat := ns.map .int
theorem datM_row (r : Row) : DatM (rowM r) (rowD r) := .tup (.cons (.str _) (.cons (.str _) .nil))
theorem datMs_rows : ∀ rows : List Row, DatMs (rowsM rows) (rowsD rows)
  | [] => .nil
  | r :: rows => .cons (datM_row r) (datMs_rows rows)
theorem datMs_strs : ∀ xs : List Str, DatMs (strsM xs) (strsD xs)
  | [] => .nil
  | x :: xs => .cons (.str x) (datMs_strs xs)
theorem datMs_ints : ∀ ns : List Int, DatMs (intsM ns) (intsD ns)
  | [] => .nil
  | x :: xs => .cons (.int x) (datMs_ints xs)
def strOks (xs : List Str) : Prop := ∀ x ∈ xs, PyData.strOk x = true
def rowOks (rows : List Row) : Prop := ∀ r ∈ rows, PyData.strOk r.1 = true ∧ PyData.strOk r.2 = true
theorem okD_row {r : Row} (h : PyData.strOk r.1 = true ∧ PyData.strOk r.2 = true) : kqdOk 7 (rowD r) = true := by
  simp [rowD, kqdOk, h.1, h.2]
theorem okD_rows {rows : List Row} (h : rowOks rows) : kqdOk 8 (.list (rowsD rows)) = true := by
  simp only [kqdOk, List.all_eq_true]
  intro d hd
  obtain ⟨r, hr, rfl⟩ := List.mem_map.mp hd
  exact okD_row (h r hr)
theorem okD_strs {xs : List Str} (h : strOks xs) : kqdOk 8 (.list (strsD xs)) = true := by
  simp only [kqdOk, List.all_eq_true]
  intro d hd
  obtain ⟨r, hr, rfl⟩ := List.mem_map.mp hd
  exact h r hr
theorem okD_ints (xs : List Int) : kqdOk 8 (.list (intsD xs)) = true := by
  simp only [kqdOk, List.all_eq_true]
  intro d hd
  obtain ⟨r, hr, rfl⟩ := List.mem_map.mp hd
  rfl
theorem map_inj' {α β : Type} {f : α → β} (hf : ∀ a b, f a = f b → a = b) : ∀ {l l' : List α}, l.map f = l'.map f → l = l'
  | [], [], _ => rfl
  | [], _ :: _, h => by simp at h
  | _ :: _, [], h => by simp at h
  | a :: l, b :: l', h => by
    simp only [List.map_cons, List.cons.injEq] at h
    rw [hf _ _ h.1, map_inj' hf h.2]
theorem rowD_inj {r r' : Row} (h : rowD r = rowD r') : r = r' := by
  simp only [rowD, Dat.tuple.injEq, List.cons.injEq, Dat.str.injEq, and_true] at h
  exact Prod.ext h.1 h.2
theorem rowsD_inj {a b : List Row} : rowsD a = rowsD b ↔ a = b := ⟨fun h => map_inj' (fun _ _ => rowD_inj) h, fun h => by rw [h]⟩
theorem strsD_inj {a b : List Str} : strsD a = strsD b ↔ a = b := ⟨fun h => map_inj' (fun _ _ e => by injection e) h, fun h => by rw [h]⟩
theorem intsD_inj {a b : List Int} : intsD a = intsD b ↔ a = b := ⟨fun h => map_inj' (fun _ _ e => by injection e) h, fun h => by rw [h]⟩

theorem op_ne_rows {a b : List Row} (hn : n % 1000 ≤ 60) (ha : rowOks a) (hb : rowOks b) (h : K (.bool (!decide (a = b))) σ) : Op2 W n (compareOp .NotEq) (.lst (rowsM a)) (.lst (rowsM b)) σ K KE := by with_unfolding_all exact (op_ne_dat (q := decide (a = b)) hn (.lst (datMs_rows a)) (.lst (datMs_rows b)) (okD_rows ha) (okD_rows hb) (by rw [decide_eq_true_iff, Dat.list.injEq, rowsD_inj]) h)
theorem op_eq_rows {a b : List Row} (hn : n % 1000 ≤ 60) (ha : rowOks a) (hb : rowOks b) (h : K (.bool (decide (a = b))) σ) : Op2 W n (compareOp .Eq) (.lst (rowsM a)) (.lst (rowsM b)) σ K KE := by with_unfolding_all exact (op_eq_dat (q := decide (a = b)) hn (.lst (datMs_rows a)) (.lst (datMs_rows b)) (okD_rows ha) (okD_rows hb) (by rw [decide_eq_true_iff, Dat.list.injEq, rowsD_inj]) h)
theorem op_ne_strs {a b : List Str} (hn : n % 1000 ≤ 60) (ha : strOks a) (hb : strOks b) (h : K (.bool (!decide (a = b))) σ) : Op2 W n (compareOp .NotEq) (.lst (strsM a)) (.lst (strsM b)) σ K KE := by with_unfolding_all exact (op_ne_dat (q := decide (a = b)) hn (.lst (datMs_strs a)) (.lst (datMs_strs b)) (okD_strs ha) (okD_strs hb) (by rw [decide_eq_true_iff, Dat.list.injEq, strsD_inj]) h)
theorem op_eq_strs {a b : List Str} (hn : n % 1000 ≤ 60) (ha : strOks a) (hb : strOks b) (h : K (.bool (decide (a = b))) σ) : Op2 W n (compareOp .Eq) (.lst (strsM a)) (.lst (strsM b)) σ K KE := by with_unfolding_all exact (op_eq_dat (q := decide (a = b)) hn (.lst (datMs_strs a)) (.lst (datMs_strs b)) (okD_strs ha) (okD_strs hb) (by rw [decide_eq_true_iff, Dat.list.injEq, strsD_inj]) h)
theorem op_ne_ints {a b : List Int} (hn : n % 1000 ≤ 60) (h : K (.bool (!decide (a = b))) σ) : Op2 W n (compareOp .NotEq) (.lst (intsM a)) (.lst (intsM b)) σ K KE := by with_unfolding_all exact (op_ne_dat (q := decide (a = b)) hn (.lst (datMs_ints a)) (.lst (datMs_ints b)) (okD_ints a) (okD_ints b) (by rw [decide_eq_true_iff, Dat.list.injEq, intsD_inj]) h)
theorem op_eq_ints {a b : List Int} (hn : n % 1000 ≤ 60) (h : K (.bool (decide (a = b))) σ) : Op2 W n (compareOp .Eq) (.lst (intsM a)) (.lst (intsM b)) σ K KE := by with_unfolding_all exact (op_eq_dat (q := decide (a = b)) hn (.lst (datMs_ints a)) (.lst (datMs_ints b)) (okD_ints a) (okD_ints b) (by rw [decide_eq_true_iff, Dat.list.injEq, intsD_inj]) h)
theorem op_ne_row {a b : Row} (hn : n % 1000 ≤ 60) (ha : PyData.strOk a.1 = true ∧ PyData.strOk a.2 = true) (hb : PyData.strOk b.1 = true ∧ PyData.strOk b.2 = true) (h : K (.bool (!decide (a = b))) σ) : Op2 W n (compareOp .NotEq) (rowM a) (rowM b) σ K KE := by with_unfolding_all exact (op_ne_dat (q := decide (a = b)) hn (datM_row a) (datM_row b) (by simp [rowD, kqdOk, ha.1, ha.2]) (by simp [rowD, kqdOk, hb.1, hb.2]) (by rw [decide_eq_true_iff]; exact ⟨fun h => by rw [h], rowD_inj⟩) h)
theorem op_ne_bool {a b : Bool} (hn : n % 1000 ≤ 60) (h : K (.bool (a != b)) σ) : Op2 W n (compareOp .NotEq) (.bool a) (.bool b) σ K KE := by with_unfolding_all exact (fun sc c g ρ loc s v₁ v₂ C G r₁ r₂ => by
  cases r₁; cases r₂
  refine ne_dataH (.bool a) (.bool b) rfl rfl (units_ok C hn) ?_
  rw [show (!PyData.eqv (.bool a) (.bool b)) = (a != b) by cases a <;> cases b <;> rfl]
  exact Post.now G (.bool _) h)
theorem op_notin_ints {ns : List Int} {i : Int} (hn : n % 1000 ≤ 60) (h : K (.bool (!decide (i ∈ ns))) σ) : Op2 W n (compareOp .NotIn) (.int i) (.lst (intsM ns)) σ K KE := by with_unfolding_all exact (fun sc c g ρ loc s v₁ v₂ C G r₁ r₂ => by
  obtain ⟨as, ra⟩ := (DatM.lst (datMs_ints ns)).reads (r₂.mono G.gh (RLe.refl _))
  obtain ⟨bs, rb⟩ := (DatM.int i).reads (r₁.mono G.gh (RLe.refl _))
  have ok := okD_ints ns
  simp only [kqdOk, List.all_eq_true] at ok
  have ok8 : ∀ d ∈ intsD ns, kqdOk 8 d = true := fun d hd => by
    obtain ⟨r, hr, rfl⟩ := List.mem_map.mp hd
    rfl
  have l := kqd_layL ok8
  have e : ((kqdPs (intsD ns)).any fun y => PyData.eqv y (kqdP (.int i))) = decide (i ∈ ns) := by
    have q := kqd_any (intsD ns) (.int i) ok8 rfl
    have q2 : Dat.int i ∈ intsD ns ↔ i ∈ ns := by simp [intsD]
    rw [q2] at q
    by_cases hq : i ∈ ns
    · rw [decide_eq_true hq]; exact q.mpr hq
    · rw [decide_eq_false hq]; exact Bool.eq_false_iff.mpr fun z => hq (q.mp z)
  refine SeqAt.notIn_list_reads (by simpa [kqdP] using ra) rb l.1 rfl ?_ ?_
  · have := units_ok C hn
    have := Nat.min_le_right (PyData.depthAll (kqdPs (intsD ns))) (kqdP (.int i)).depth
    have : (kqdP (.int i)).depth = 0 := rfl
    omega
  · rw [e]; exact Post.now G (.bool _) h)
end
end
section
open PySem PySem.W PyProof.Rows
section
variable {W : Wd} {Kf : Frag} {σ : Hp} {n : Nat} {K : MV → Hp → Prop} {KE : Xc → Hp → Prop}
theorem iter_rngIt {k : Nat} {x left step : Int} {K : Nat → Hp → Prop} (hk : σ[k]? = some (.sem (rngIt x left step))) (h : K k σ) : IterP W n (.obj k) σ K := by with_unfolding_all exact (fun sc c g ρ loc s v E C G r => by
  obtain ⟨⟨a, a2⟩, hp, rfl, e2, o, ho, rfl⟩ := sem_at G hk r
  exact wpAny_pyIter_rangeiter ho (Post.now G r ⟨k, rfl, h⟩))
end
section
variable {W : Wd} {σ : Hp} {n : Nat} {sc : Scope} {loc : Loc}
theorem TestsP.mono {ifs : List Expr} {K K' : Bool → Hp → Prop} (h : TestsP W n sc ifs loc σ K) (hK : ∀ b σ, K b σ → K' b σ) : TestsP W n sc ifs loc σ K' := by with_unfolding_all exact (fun c g ρ s E C G =>
  wpAny_mono (h c g ρ s E C G) (fun _ s' ⟨σ', g', ρ', k, x⟩ => ⟨σ', g', ρ', hK _ _ k, x⟩) fun _ _ x => x)
end
section
variable {W : Wd} {Kf : Frag} {σ : Hp} {n : Nat} {K : MV → Hp → Prop} {KE : Xc → Hp → Prop} {sc scope : Scope} {loc loc' : Loc}

/-- what holds of a heap behind which things were put -/
def Ext (σ τ : Hp) : Prop := ∃ E, τ = σ ++ E
theorem Ext.get {σ τ : Hp} (h : Ext σ τ) {i : Nat} {o : MO} (e : σ[i]? = some o) : τ[i]? = some o := by
  obtain ⟨E, rfl⟩ := h; exact lookup_app e
theorem Ext.rows {σ τ : Hp} (h : Ext σ τ) {a l : Nat} {rows : List Row} (H : HasRows σ a l rows) : HasRows τ a l rows := by
  obtain ⟨E, rfl⟩ := h; exact H.app E

/-- what an elt and its tests make of one item -/
def TurnP (W : Wd) (n : Nat) (sc' : Scope) (loc' : Loc) (target elt : Expr) (ifs : List Expr) (m : MV) (τ : Hp) (K : Option MV → Prop) : Prop :=
  AsQ W n sc' target m loc' τ (fun loc₂ τ' => τ' = τ ∧ SubL loc' loc₂ ∧ TestsP W n sc' ifs loc₂ τ (fun b τ' => τ' = τ ∧ (b = true → EvP W n sc' elt loc₂ τ (fun mv τ' => τ' = τ ∧ K (some mv)) NE) ∧ (b = false → K none)))

def plus (l : List MV) : Option MV → List MV
  | some m => l ++ [m]
  | none => l

theorem core_list {items : List MV} {elt target iter : Expr} {ifs : List Expr} {pos : Pos} (hn : n < 1000) (hl : ∀ k, σ.length ≤ k → locOk k loc' = true) (hw : wf σ) (R : Nat → List MV) (h0 : R 0 = []) (hR : ∀ q, q ≤ items.length → (R q).length ≤ 1000 ∧ ∀ k, oksL k (R q) = true) (hi : ∀ k, oksL k items = true)
    (hb : ∀ q m, items[q]? = some m → ∀ τ, wf τ → Ext σ τ → TurnP W n (compScope sc scope) loc' target elt ifs m τ (fun r => R (q + 1) = plus (R q) r))
    (P : MV → Hp → Prop) (hP : P (.lst (R items.length)) σ) :
    IterP W n (.lst items) σ (fun k σ₂ => (∃ x, σ₂[k]? = some x) ∧ IterP W n (.obj k) (σ₂ ++ [.list []]) (fun k' σ' => k' = k ∧ σ' = σ₂ ++ [.list []]) ∧ CompP W n (compScope sc scope) (.ListComp elt [⟨target, iter, ifs, 0⟩] scope pos) k σ₂.length loc' (σ₂ ++ [.list []]) (fun σ₄ =>
      ∃ its, σ₄[σ₂.length]? = some (.list its) ∧ (σ₄.take σ.length).all (·.ok σ.length) = true ∧ oksL σ.length its = true ∧ σ.length ≤ σ₂.length ∧ P (.lst its) (σ₄.take σ.length))) := by
  refine iter_list (l := items) rfl ?_
  refine ⟨⟨_, lookup_last _ _⟩, iter_listIt (lookup_app (lookup_last _ _)) ⟨rfl, rfl⟩, ?_⟩
  rw [show (σ ++ [MO.sem (listIt (MV.lst items) 0)]).length = σ.length + 1 by simp]
  have wS : ∀ p q, q ≤ items.length → wf (σ ++ [.sem (listIt (.lst items) p)] ++ [.list (R q)]) := fun p q hq => (hw.app fun k _ => by simp only [MO.ok, listIt, objSem, MV.ok]; exact hi _).app fun k _ => (hR q hq).2 k
  have et : ∀ a b : MO, (σ ++ [a] ++ [b]).take σ.length = σ := fun a b => by rw [List.append_assoc]; exact List.take_left
  refine comp_ind (fun m σ' => ∃ p, m = items.length - p ∧ p ≤ items.length ∧ σ' = σ ++ [.sem (listIt (.lst items) p)] ++ [.list (R p)]) ?_ items.length ⟨0, rfl, Nat.zero_le _, by rw [h0]⟩
  rintro m σ' ⟨p, rfl, hp, rfl⟩
  refine nxt_list (l := items) hn (mid2 _ _ _) rfl (fun mv hm => ?_) (fun hm => ?_)
  · have hpl := (List.getElem?_eq_some_iff.mp hm).1
    rw [set_mid2]
    refine AsQ.mono (hb p mv hm _ (wS _ _ hp) ⟨[.sem (listIt (.lst items) (p + 1))] ++ [.list (R p)], by rw [List.append_assoc]⟩) ?_
    rintro loc₂ τ' ⟨rfl, hsub, hT⟩
    refine ⟨hsub, ?_⟩
    have fin : ∀ r, R (p + 1) = plus (R p) r → ∀ τ, τ = σ ++ [.sem (listIt (.lst items) (p + 1))] ++ [.list (plus (R p) r)] → ∃ m', m' < items.length - p ∧ Less (max (max (σ.length + 1) (σ.length + 1 + 1)) (σ ++ [MO.sem (listIt (MV.lst items) 0)] ++ [MO.list []]).length) (fun l τ => l = loc' ∧ ∃ p, m' = items.length - p ∧ p ≤ items.length ∧ τ = σ ++ [.sem (listIt (.lst items) p)] ++ [.list (R p)]) loc₂ τ := fun r hr τ hτ => by
      subst hτ
      refine ⟨items.length - (p + 1), by omega, ?_⟩
      rw [← hr]
      exact less_full (by simp) hsub (hl _ (by simp)) (wS _ _ (by omega)) ⟨rfl, p + 1, rfl, by omega, rfl⟩
    refine TestsP.mono hT ?_
    rintro b τ' ⟨rfl, h1, h2⟩
    refine ⟨fun hb => ?_, fun hb => ?_⟩
    · refine EvP.mono (h1 hb) ?_ fun _ _ x => x
      rintro mv' τ' ⟨rfl, hr⟩
      refine ⟨_, last2 _ _ _, (hR p hp).1, ?_⟩
      rw [set_last2]
      exact fin _ hr _ rfl
    · exact fin _ (h2 hb) _ rfl
  · have e3 : p = items.length := by
      rw [List.getElem?_eq_none_iff] at hm; omega
    subst e3
    rw [set_mid2]
    refine ⟨_, last2 _ _ _, by rw [et]; exact hw _ (Nat.le_refl _), (hR _ (Nat.le_refl _)).2 _, by omega, ?_⟩
    rw [et]; exact hP

theorem rsmall {k : Nat} (h : k ≤ 100000) : Builtin.Range.small 0 (k : Int) 1 = true ∧ Builtin.Range.rangeSize 0 (k : Int) 1 = k := by
  have e : Builtin.Range.rangeSize 0 (k : Int) 1 = k := by
    rw [rangeSize_one]; split <;> omega
  refine ⟨?_, e⟩
  unfold Builtin.Range.small
  rw [e]
  simp [Builtin.Range.rangeFitsLong]
  omega

theorem core_range {N : Nat} {elt target iter : Expr} {ifs : List Expr} {pos : Pos} (hn : n < 1000) (hl : ∀ k, σ.length ≤ k → locOk k loc' = true) (hw : wf σ) (hN : N ≤ 1000) (R : Nat → List MV) (h0 : R 0 = []) (hR : ∀ q, q ≤ N → (R q).length ≤ 1000 ∧ ∀ k, oksL k (R q) = true)
    (hb : ∀ q : Nat, q < N → ∀ τ, wf τ → Ext σ τ → TurnP W n (compScope sc scope) loc' target elt ifs (.int q) τ (fun r => R (q + 1) = plus (R q) r))
    (P : MV → Hp → Prop) (hP : P (.lst (R N)) σ) :
    IterP W n (.fz (rngF 0 (N : Int) 1)) σ (fun k σ₂ => (∃ x, σ₂[k]? = some x) ∧ IterP W n (.obj k) (σ₂ ++ [.list []]) (fun k' σ' => k' = k ∧ σ' = σ₂ ++ [.list []]) ∧ CompP W n (compScope sc scope) (.ListComp elt [⟨target, iter, ifs, 0⟩] scope pos) k σ₂.length loc' (σ₂ ++ [.list []]) (fun σ₄ =>
      ∃ its, σ₄[σ₂.length]? = some (.list its) ∧ (σ₄.take σ.length).all (·.ok σ.length) = true ∧ oksL σ.length its = true ∧ σ.length ≤ σ₂.length ∧ P (.lst its) (σ₄.take σ.length))) := by
  obtain ⟨s1, s2⟩ := rsmall (k := N) (by omega)
  refine iter_range s1 ?_
  rw [s2]
  refine ⟨⟨_, lookup_last _ _⟩, iter_rngIt (lookup_app (lookup_last _ _)) ⟨rfl, rfl⟩, ?_⟩
  rw [show (σ ++ [MO.sem (rngIt 0 (N : Int) 1)]).length = σ.length + 1 by simp]
  have wS : ∀ (x y : Int) q, q ≤ N → wf (σ ++ [.sem (rngIt x y 1)] ++ [.list (R q)]) := fun x y q hq => (hw.app fun k _ => rfl).app fun k _ => (hR q hq).2 k
  have et : ∀ a b : MO, (σ ++ [a] ++ [b]).take σ.length = σ := fun a b => by rw [List.append_assoc]; exact List.take_left
  refine comp_ind (fun m σ' => ∃ p : Nat, m = N - p ∧ p ≤ N ∧ σ' = σ ++ [.sem (rngIt (p : Int) ((N : Int) - p) 1)] ++ [.list (R p)]) ?_ N ⟨0, rfl, Nat.zero_le _, by rw [h0]; simp⟩
  rintro m σ' ⟨p, rfl, hp, rfl⟩
  refine nxt_range hn (mid2 _ _ _) (fun hm => ?_) (fun hm => ?_)
  · have hpl : p < N := by omega
    rw [set_mid2]
    refine AsQ.mono (hb p hpl _ (wS _ _ _ hp) ⟨[.sem (rngIt ((p : Int) + 1) ((N : Int) - p - 1) 1)] ++ [.list (R p)], by rw [List.append_assoc]⟩) ?_
    rintro loc₂ τ' ⟨rfl, hsub, hT⟩
    refine ⟨hsub, ?_⟩
    have fin : ∀ r, R (p + 1) = plus (R p) r → ∀ τ, τ = σ ++ [.sem (rngIt ((p : Int) + 1) ((N : Int) - p - 1) 1)] ++ [.list (plus (R p) r)] → ∃ m', m' < N - p ∧ Less (max (max (σ.length + 1) (σ.length + 1 + 1)) (σ ++ [MO.sem (rngIt 0 (N : Int) 1)] ++ [MO.list []]).length) (fun l τ => l = loc' ∧ ∃ p : Nat, m' = N - p ∧ p ≤ N ∧ τ = σ ++ [.sem (rngIt (p : Int) ((N : Int) - p) 1)] ++ [.list (R p)]) loc₂ τ := fun r hr τ hτ => by
      subst hτ
      refine ⟨N - (p + 1), by omega, ?_⟩
      rw [← hr]
      exact less_full (by simp) hsub (hl _ (by simp)) (wS _ _ _ (by omega)) ⟨rfl, p + 1, rfl, by omega, by rw [show ((p + 1 : Nat) : Int) = (p : Int) + 1 by omega, show (N : Int) - ((p : Int) + 1) = (N : Int) - p - 1 by omega]⟩
    refine TestsP.mono hT ?_
    rintro b τ' ⟨rfl, h1, h2⟩
    refine ⟨fun hb => ?_, fun hb => ?_⟩
    · refine EvP.mono (h1 hb) ?_ fun _ _ x => x
      rintro mv' τ' ⟨rfl, hr⟩
      refine ⟨_, last2 _ _ _, (hR p hp).1, ?_⟩
      rw [set_last2]
      exact fin _ hr _ rfl
    · exact fin _ (h2 hb) _ rfl
  · have e3 : p = N := by omega
    subst e3
    rw [set_mid2]
    refine ⟨_, last2 _ _ _, by rw [et]; exact hw _ (Nat.le_refl _), (hR _ (Nat.le_refl _)).2 _, by omega, ?_⟩
    rw [et]; exact hP

theorem ev_comp_range {N : Nat} {elt target iter : Expr} {ifs : List Expr} {pos : Pos} (loc' : Loc) (hok : compOk sc scope = true) (hcap : CapL sc scope loc' loc) (hs : ∀ env x, foldedSetIterable iter env x = pure x) (hn : n < 1000)
    (hit : ∀ K' : MV → Hp → Prop, K' (.fz (rngF 0 (N : Int) 1)) σ → EvP W n sc iter loc σ K' KE)
    (hl : ∀ k, σ.length ≤ k → locOk k loc' = true) (hw : wf σ) (hN : N ≤ 1000) (R : Nat → List MV) (h0 : R 0 = []) (hR : ∀ q, q ≤ N → (R q).length ≤ 1000 ∧ ∀ k, oksL k (R q) = true)
    (hb : ∀ q : Nat, q < N → ∀ τ, wf τ → Ext σ τ → TurnP W n (compScope sc scope) loc' target elt ifs (.int q) τ (fun r => R (q + 1) = plus (R q) r))
    (hK : K (.lst (R N)) σ) : EvP W n sc (.ListComp elt [⟨target, iter, ifs, 0⟩] scope pos) loc σ K KE :=
  ev_listcomp hok hcap hs (hit _ (core_range hn hl hw hN R h0 hR hb K hK))
theorem ev_comp_list {items : List MV} {elt target iter : Expr} {ifs : List Expr} {pos : Pos} (loc' : Loc) (hok : compOk sc scope = true) (hcap : CapL sc scope loc' loc) (hs : ∀ env x, foldedSetIterable iter env x = pure x) (hn : n < 1000)
    (hit : ∀ K' : MV → Hp → Prop, K' (.lst items) σ → EvP W n sc iter loc σ K' KE)
    (hl : ∀ k, σ.length ≤ k → locOk k loc' = true) (hw : wf σ) (R : Nat → List MV) (h0 : R 0 = []) (hR : ∀ q, q ≤ items.length → (R q).length ≤ 1000 ∧ ∀ k, oksL k (R q) = true) (hi : ∀ k, oksL k items = true)
    (hb : ∀ q m, items[q]? = some m → ∀ τ, wf τ → Ext σ τ → TurnP W n (compScope sc scope) loc' target elt ifs m τ (fun r => R (q + 1) = plus (R q) r))
    (hK : K (.lst (R items.length)) σ) : EvP W n sc (.ListComp elt [⟨target, iter, ifs, 0⟩] scope pos) loc σ K KE :=
  ev_listcomp hok hcap hs (hit _ (core_list hn hl hw R h0 hR hi hb K hK))
theorem ex_comp_list {x : Str} {npos apos : Pos} {K : Fl → Loc → Hp → Prop} {KE : Xc → Loc → Hp → Prop} {items : List MV} {elt target iter : Expr} {ifs : List Expr} {pos : Pos} (loc' : Loc) (hx : sc.names.lookup x = some .local) (hsw : ∀ env : Env, env.scope = sc → swapsWith (.ListComp elt [⟨target, iter, ifs, 0⟩] scope pos) (some (.Name x npos)) apos.line env = pure true) (hok : compOk sc scope = true) (hcap : CapL sc scope loc' loc) (hs : ∀ env x, foldedSetIterable iter env x = pure x) (hn : n < 1000)
    (hit : ∀ K' : MV → Hp → Prop, K' (.lst items) σ → EvP W n sc iter loc σ K' (fun x σ' => KE x loc σ'))
    (hl : ∀ k, σ.length ≤ k → locOk k loc' = true) (hw : wf σ) (R : Nat → List MV) (h0 : R 0 = []) (hR : ∀ q, q ≤ items.length → (R q).length ≤ 1000 ∧ ∀ k, oksL k (R q) = true) (hi : ∀ k, oksL k items = true)
    (hb : ∀ q m, items[q]? = some m → ∀ τ, wf τ → Ext σ τ → TurnP W n (compScope sc scope) loc' target elt ifs m τ (fun r => R (q + 1) = plus (R q) r))
    (hK : K .next ((x, .lst (R items.length)) :: loc) σ) : ExP W n sc (.Assign [.Name x npos] (.ListComp elt [⟨target, iter, ifs, 0⟩] scope pos) apos) loc σ K KE :=
  ex_assign_comp hx hsw hok hcap hs (hit _ (core_list hn hl hw R h0 hR hi hb (fun m σ' => K .next ((x, m) :: loc) σ') hK))

/-- over the pairs of rows, each made into something -/
theorem ev_comp_rows {rows : List Row} {elt iter : Expr} {a b : Str} {x1 : Nat} {p1 p2 p3 pos : Pos} (f : Row → MV) (loc' : Loc) (hok : compOk sc scope = true) (hcap : CapL sc scope loc' loc) (hs : ∀ env x, foldedSetIterable iter env x = pure x) (hn : n < 1000)
    (ha : (compScope sc scope).names.lookup a = some .local) (hb : (compScope sc scope).names.lookup b = some .local) (na : loc'.lookup a = none) (nb : loc'.lookup b = none)
    (hit : ∀ K' : MV → Hp → Prop, K' (.lst (rowsM rows)) σ → EvP W n sc iter loc σ K' KE)
    (hl : ∀ k, σ.length ≤ k → locOk k loc' = true) (hw : wf σ) (hz : rows.length ≤ 1000) (okf : ∀ k r, (f r).ok k = true)
    (he : ∀ r ∈ rows, ∀ τ, wf τ → Ext σ τ → ∀ K' : MV → Hp → Prop, K' (f r) τ → EvP W n (compScope sc scope) elt ((b, .str r.2) :: (a, .str r.1) :: loc') τ K' NE)
    (hK : K (.lst (rows.map f)) σ) : EvP W n sc (.ListComp elt [⟨.Tuple [.Name a p1, .Name b p2] x1 p3, iter, [], 0⟩] scope pos) loc σ K KE := by
  have oks : ∀ k (rs : List Row), oksL k (rs.map f) = true := fun k rs => by
    induction rs with
    | nil => rfl
    | cons r rs ih => simp only [List.map_cons, oksL, Bool.and_eq_true]; exact ⟨okf _ _, ih⟩
  refine ev_comp_list (items := rowsM rows) loc' hok hcap hs hn hit hl hw (fun q => (rows.take q).map f) rfl (fun q hq => ⟨by rw [List.length_map, List.length_take]; omega, fun k => oks k _⟩) (fun k => ok_rows k _) (fun q m hm τ hwτ hx => ?_) ?_
  · rw [rowsM_get, Option.map_eq_some_iff] at hm
    obtain ⟨r, hr, rfl⟩ := hm
    refine aq_tuple (by omega) rfl (fun _ => ⟨rfl, rfl⟩) ?_
    refine aqs_cons ?_ (fun _ => rfl)
    refine aq_name ha ?_
    refine aqs_cons ?_ (fun _ => rfl)
    refine aq_name hb ?_
    refine aqs_nil ?_
    refine ⟨rfl, ?_, ?_⟩
    · by_cases hab : b = a
      · subst hab
        exact sub_cons nb (sub_cons na (SubL.refl _))
      · exact sub_cons nb (sub_cons na (SubL.refl _))
    refine tests_nil ?_
    refine ⟨rfl, fun _ => ?_, nofun⟩
    refine he r (List.mem_of_getElem? hr) τ hwτ hx _ ?_
    refine ⟨rfl, ?_⟩
    rw [List.take_add_one, hr]
    simp [plus]
  · rw [rowsM_len, List.take_length]
    exact hK
end
end
section
open PySem PySem.W PyProof.Rows
section
variable {W : Wd} {Kf : Frag} {σ : Hp} {n : Nat} {K : MV → Hp → Prop} {KE : Xc → Hp → Prop}

/-- does the row at k have the key? -/
def hitAt (key : Str) (rows : List Row) (k : Nat) : Bool := (rows[k]?).any fun r => low r.1 == low key
def hitsTo (key : Str) (rows : List Row) (q : Nat) : List Nat := (List.range q).filter (hitAt key rows)
def natsI (ks : List Nat) : List Int := ks.map fun (k : Nat) => (k : Int)
theorem hitsTo_succ (key : Str) (rows : List Row) (q : Nat) : hitsTo key rows (q + 1) = if hitAt key rows q then hitsTo key rows q ++ [q] else hitsTo key rows q := by
  unfold hitsTo
  rw [List.range_succ, List.filter_append, List.filter_cons, List.filter_nil]
  split <;> simp
theorem hitsTo_len (key : Str) (rows : List Row) (q : Nat) : (hitsTo key rows q).length ≤ q := by
  have := List.length_filter_le (hitAt key rows) (List.range q)
  simpa [hitsTo] using this
theorem intsM_ok (k : Nat) : ∀ ns : List Int, oksL k (intsM ns) = true
  | [] => rfl
  | x :: xs => by
    have := intsM_ok k xs
    simp only [intsM, List.map_cons, oksL, Bool.and_eq_true]
    exact ⟨rfl, this⟩

theorem sub_slice {mo : MV} {l : List MV} {lo hi : Option Int} {a b : Option Expr} {pos : Pos} (hl : asList σ mo = some l) (hz : l.length ≤ 100000)
    (h : K (.lst ((l.drop (kms_lo lo l.length)).take (kms_hi hi l.length - kms_lo lo l.length))) σ) :
    Op2 W n (fun x y => do subscripted (.Slice a b none pos) (← getitemInPython x) x y) mo (.fz (sliF lo hi)) σ K KE :=
  sub_list_slice hl hz (fun vs hv => ⟨_, _, by rw [kms_pick_eq]; unfold kms_pick; rw [List.toList_toArray, hv], rfl⟩) h

theorem hits_cons {key : Str} {rows : List Row} {N p0 : Nat} {tl : List Nat} (h : hitsTo key rows N = p0 :: tl) : p0 < N ∧ hitAt key rows p0 = true ∧ (∀ k, k < p0 → hitAt key rows k = false) ∧ ∀ k, k < N → (k ∈ tl ↔ hitAt key rows k = true ∧ k ≠ p0) := by
  have hm : ∀ k, k ∈ p0 :: tl ↔ k < N ∧ hitAt key rows k = true := fun k => by rw [← h]; simp [hitsTo]
  have hp : (p0 :: tl).Pairwise (· < ·) := by rw [← h]; exact List.Pairwise.filter _ List.pairwise_lt_range
  rw [List.pairwise_cons] at hp
  obtain ⟨h1, h2⟩ := (hm p0).mp (.head _)
  refine ⟨h1, h2, fun k hk => ?_, fun k hk => ⟨fun hkt => ?_, fun ⟨hh, hne⟩ => ?_⟩⟩
  · cases e : hitAt key rows k with
    | false => rfl
    | true =>
      rcases List.mem_cons.mp ((hm k).mpr ⟨by omega, e⟩) with q | q
      · omega
      · have := hp.1 k q; omega
  · have := hp.1 k hkt
    exact ⟨((hm k).mp (.tail _ hkt)).2, by omega⟩
  · rcases List.mem_cons.mp ((hm k).mpr ⟨hk, hh⟩) with q | q
    · exact absurd q hne
    · exact q
theorem hits_nil {key : Str} {rows : List Row} (h : hitsTo key rows rows.length = []) : ∀ r ∈ rows, (low r.1 == low key) = false := fun r hr => by
  obtain ⟨k, hk, rfl⟩ := List.mem_iff_getElem.mp hr
  have : hitAt key rows k = false := by
    cases e : hitAt key rows k with
    | false => rfl
    | true =>
      have : k ∈ hitsTo key rows rows.length := by simp [hitsTo, hk, e]
      rw [h] at this; cases this
  unfold hitAt at this
  rw [List.getElem?_eq_getElem hk] at this
  exact this

/-- the rows as far as q: the first hit given anew, the others left out -/
def setTo (key x : Str) (rows : List Row) (p0 q : Nat) : List Row :=
  if q ≤ p0 then rows.take q else rows.take p0 ++ (key, x) :: dropKey key ((rows.drop (p0 + 1)).take (q - (p0 + 1)))
theorem setTo_end {key x : Str} {rows : List Row} {p0 : Nat} {tl : List Nat} (h : hitsTo key rows rows.length = p0 :: tl) : setTo key x rows p0 rows.length = setRows key x rows := by
  obtain ⟨h1, h2, h3, _⟩ := hits_cons h
  obtain ⟨r, hr⟩ : ∃ r, rows[p0]? = some r := ⟨rows[p0], List.getElem?_eq_getElem h1⟩
  have hb : (low r.1 == low key) = true := by unfold hitAt at h2; rw [hr] at h2; exact h2
  rw [setRows_at (p := p0) (r := r) (fun r' hr' => ?_) hr hb]
  · unfold setTo
    rw [if_neg (by omega), show (rows.drop (p0 + 1)).take (rows.length - (p0 + 1)) = rows.drop (p0 + 1) from List.take_of_length_le (by rw [List.length_drop]; omega)]
  · obtain ⟨k, hk, rfl⟩ := List.mem_iff_getElem.mp hr'
    rw [List.length_take] at hk
    have := h3 k (by omega)
    unfold hitAt at this
    rw [List.getElem?_eq_getElem (by omega)] at this
    rw [List.getElem_take]
    exact this
theorem setTo_len (key x : Str) (rows : List Row) (p0 q : Nat) : (setTo key x rows p0 q).length ≤ rows.length + 1 := by
  unfold setTo
  split
  · rw [List.length_take]; omega
  · have := dropKey_len key ((rows.drop (p0 + 1)).take (q - (p0 + 1)))
    rw [List.length_take, List.length_drop] at this
    simp only [List.length_append, List.length_cons, List.length_take]
    omega
theorem setTo_lt {key x : Str} {rows : List Row} {p0 q : Nat} {r : Row} (hr : rows[q]? = some r) (hq : q < p0) : setTo key x rows p0 (q + 1) = setTo key x rows p0 q ++ [r] := by
  unfold setTo
  rw [if_pos (by omega), if_pos (by omega), List.take_add_one, hr]; rfl
theorem setTo_at {key x : Str} {rows : List Row} {p0 : Nat} : setTo key x rows p0 (p0 + 1) = setTo key x rows p0 p0 ++ [(key, x)] := by
  unfold setTo
  rw [if_neg (by omega), if_pos (Nat.le_refl _)]
  simp [dropKey]
theorem setTo_gt {key x : Str} {rows : List Row} {p0 q : Nat} {r : Row} (hr : rows[q]? = some r) (hq : p0 < q) : setTo key x rows p0 (q + 1) = if (low r.1 == low key) = true then setTo key x rows p0 q else setTo key x rows p0 q ++ [r] := by
  have e0 : setTo key x rows p0 q = rows.take p0 ++ (key, x) :: dropKey key ((rows.drop (p0 + 1)).take (q - (p0 + 1))) := by unfold setTo; rw [if_neg (by omega)]
  have e1 : setTo key x rows p0 (q + 1) = rows.take p0 ++ (key, x) :: dropKey key ((rows.drop (p0 + 1)).take (q + 1 - (p0 + 1))) := by unfold setTo; rw [if_neg (by omega)]
  rw [e0, e1, show q + 1 - (p0 + 1) = (q - (p0 + 1)) + 1 by omega, List.take_add_one, List.getElem?_drop, show p0 + 1 + (q - (p0 + 1)) = q by omega, hr]
  simp only [dropKey, Option.toList_some, List.filter_append, List.filter_cons, List.filter_nil]
  cases hb : (low r.1 == low key) <;> simp

theorem c_law_set (F : Pr W Kf) (hn : n ≤ 30) {rows : List Row} {key x : Str} (hk : key.length ≤ 100000) (hs : Short rows) (hz : rows.length < 1000) (hw : wf σ)
    (h : K (.lst (rowsM (setRows key x rows))) σ) : CallM W n (.ref 560) [.lst (rowsM rows), .str key, .str x] [] σ K KE := by
  refine call_cd (by omega) (CdP.cut ?_)
  obtain ⟨r, D⟩ := F.f560
  refine fn_call (body := bodyOf (topStmt 18)) D F.lim (by omega) rfl ⟨rfl, rfl, rfl⟩ ?_
  refine bd_pos (ps := ["rows", "name", "value"]) (fun vs hv => ?_) rfl ?_
  · match vs, hv with
    | [a, b, c], _ => rfl
  refine ⟨rfl, ?_⟩
  have FX := F.toSx
  refine exs_cons ?_
  refine ex_assign ?_ (fun env h => by cases env; cases h; rfl) (fun env h => by cases env; cases h; rfl) (fun _ => rfl)
  refine ev_comp_range (N := rows.length) [("rows", .lst (rowsM rows)), ("name", .str key)] rfl (capL_cons rfl rfl (capL_cons rfl rfl capL_nil)) (fun _ _ => rfl) (by omega) (fun K' hK => ?_) (fun k _ => by simp [locOk, MV.ok, ok_rows]) hw (by omega)
    (fun q => intsM (natsI (hitsTo key rows q))) rfl (fun q hq => ⟨by have := hitsTo_len key rows q; simp only [intsM, natsI, List.length_map]; omega, fun k => intsM_ok k _⟩) (fun q hq τ hwτ hx => ?_) ?_
  · walk_at "mv"
    refine ⟨_, rfl, by walk_at "mv_keep", ?_⟩
    walk_at "mv"
    refine ⟨_, rfl, by walk_at "mv_keep", ?_⟩
    walk_at "mv"
    refine call_len (l := rowsM rows) rfl (by rw [rowsM_len]; omega) ?_
    rw [rowsM_len]
    walk_at "mv"
    exact call_range1 hK
  · refine aq_name rfl ?_
    refine ⟨rfl, sub_cons rfl (SubL.refl _), ?_⟩
    refine tests_one ?_
    obtain ⟨row, hrow⟩ : ∃ row, rows[q]? = some row := ⟨rows[q], List.getElem?_eq_getElem hq⟩
    have hrs := hs row (List.mem_of_getElem? hrow)
    walk_at "mv"
    refine sub_list_int (l := rowsM rows) (j := q) (m := rowM row) rfl (by rw [rowsM_len]; omega) (.inl ⟨by omega, by omega⟩) (by rw [rowsM_get, hrow]; rfl) ?_
    walk_at "mv"
    refine sub_tup (k := 0) (m := .str row.1) (by simp) rfl ?_
    refine ⟨_, getM_lower, keep_builtin _, ?_⟩
    walk_at "mv"
    refine call_lower hrs.1 ?_
    walk_at "mv"
    refine ⟨_, getM_lower, keep_builtin _, ?_⟩
    walk_at "mv"
    refine call_lower hk ?_
    walk_at "mv"
    refine op_eq_str ?_
    refine tst_bool ?_
    have eh : hitAt key rows q = (low row.1 == low key) := by unfold hitAt; rw [hrow]; rfl
    refine ⟨rfl, fun hb => ?_, fun hb => ?_⟩
    · walk_at "mv"
      refine ⟨rfl, ?_⟩
      rw [hitsTo_succ, eh, show (low row.1 == low key) = true from hb]
      simp [plus, intsM, natsI]
    · rw [hitsTo_succ, eh, show (low row.1 == low key) = false from hb]
      rfl
  walk_at "mv"
  refine ev_list ?_
  walk_at "mv"
  refine ⟨by simp, ?_⟩
  refine op_eq_ints (b := []) (by omega) ?_
  refine tst_bool ?_
  have FXs := FX.toSf
  refine ⟨fun hb => ?_, fun hb => ?_⟩
  · have hb' : hitsTo key rows rows.length = [] := by
      have := of_decide_eq_true hb
      simpa [natsI] using this
    walk_at "mv"
    refine ev_list ?_
    walk_at "mv"
    refine ⟨by simp, ?_⟩
    walk_at "mv"
    refine ⟨by simp, ?_⟩
    refine op_add_lists (l := rowsM rows) (l' := [.tup [.str key, .str x]]) rfl rfl (by rw [rowsM_len]; simp; omega) ?_
    rw [setRows_no (hits_nil hb')] at h
    have e : rowsM rows ++ [MV.tup [.str key, .str x]] = rowsM (rows ++ [(key, x)]) := by simp [rowsM, rowM]
    rw [e]
    exact cut_all (m := .lst _) (Nat.le_refl _) hw (ok_rows _ _) h
  · obtain ⟨p0, tl, ht⟩ : ∃ p0 tl, hitsTo key rows rows.length = p0 :: tl := by
      cases e : hitsTo key rows rows.length with
      | nil => rw [e] at hb; exact absurd hb (by decide)
      | cons a l => exact ⟨a, l, rfl⟩
    have htl : tl.length ≤ 1000 := by have := hitsTo_len key rows rows.length; rw [ht] at this; simp at this; omega
    obtain ⟨h1, h2, h3, h4⟩ := hits_cons ht
    rw [ht]
    walk_at "mv"
    refine ev_comp_range (N := rows.length) [("rows", .lst (rowsM rows)), ("name", .str key), ("value", .str x), ("places", .lst (intsM (natsI (p0 :: tl))))] rfl (capL_cons rfl rfl (capL_cons rfl rfl (capL_cons rfl rfl (capL_cons rfl rfl capL_nil)))) (fun _ _ => rfl) (by omega) (fun K' hK => ?_) (fun k _ => by simp [locOk, MV.ok, ok_rows, intsM_ok]) hw (by omega)
      (fun q => rowsM (setTo key x rows p0 q)) (by simp [setTo, rowsM]) (fun q hq => ⟨by have := setTo_len key x rows p0 q; rw [rowsM_len]; omega, fun k => ok_rows k _⟩) (fun q hq τ hwτ hx => ?_) ?_
    · walk_at "mv"
      refine ⟨_, rfl, by walk_at "mv_keep", ?_⟩
      walk_at "mv"
      refine ⟨_, rfl, by walk_at "mv_keep", ?_⟩
      walk_at "mv"
      refine call_len (l := rowsM rows) rfl (by rw [rowsM_len]; omega) ?_
      rw [rowsM_len]
      walk_at "mv"
      exact call_range1 hK
    · refine aq_name rfl ?_
      refine ⟨rfl, sub_cons rfl (SubL.refl _), ?_⟩
      refine tests_one ?_
      obtain ⟨row, hrow⟩ : ∃ row, rows[q]? = some row := ⟨rows[q], List.getElem?_eq_getElem hq⟩
      have eh : hitAt key rows q = (low row.1 == low key) := by unfold hitAt; rw [hrow]; rfl
      walk_at "mv"
      refine ev_slice ?_
      refine evo_some ?_
      walk_at "mv"
      refine evo_none ?_
      refine ⟨some 1, none, rfl, rfl, ?_⟩
      refine sub_slice (l := intsM (natsI (p0 :: tl))) rfl (by simp [intsM, natsI]; omega) ?_
      have es : ((intsM (natsI (p0 :: tl))).drop (kms_lo (some 1) (intsM (natsI (p0 :: tl))).length)).take (kms_hi none (intsM (natsI (p0 :: tl))).length - kms_lo (some 1) (intsM (natsI (p0 :: tl))).length) = intsM (natsI tl) := by
        have e1 : kms_lo (some 1) (intsM (natsI (p0 :: tl))).length = 1 := by simp [kms_lo, intsM, natsI]
        rw [e1]
        simp [kms_hi, intsM, natsI]
        rw [List.take_of_length_le (by simp)]
      rw [es]
      refine op_notin_ints (by omega) ?_
      have em : ((q : Int) ∈ natsI tl) ↔ q ∈ tl := by
        simp only [natsI, List.mem_map]
        exact ⟨fun ⟨a, ha, e⟩ => by rw [← Int.ofNat.inj e]; exact ha, fun h => ⟨q, h, rfl⟩⟩
      have em' : decide ((q : Int) ∈ natsI tl) = decide (q ∈ tl) := by simp only [em]
      rw [em']
      refine tst_bool ?_
      refine ⟨rfl, fun hb => ?_, fun hb => ?_⟩
      · have hnt : q ∉ tl := by simpa using hb
        walk_at "mv"
        refine sub_list_int (l := intsM (natsI (p0 :: tl))) (j := 0) (m := .int p0) rfl (by simp [intsM, natsI]; omega) (.inl ⟨by omega, rfl⟩) rfl ?_
        refine op_eq_int ?_
        refine tst_bool ?_
        refine ⟨fun hq0 => ?_, fun hq0 => ?_⟩
        · have hq0' : q = p0 := Int.ofNat.inj (by simpa using hq0)
          subst hq0'
          walk_at "mv"
          refine ⟨by simp, rfl, ?_⟩
          rw [setTo_at]
          simp [plus, rowsM, rowM]
        · have hq0' : q ≠ p0 := fun e => by subst e; simp at hq0
          have hh : hitAt key rows q = false := by
            cases e : hitAt key rows q with
            | false => rfl
            | true => exact absurd ((h4 q hq).mpr ⟨e, hq0'⟩) hnt
          walk_at "mv"
          refine sub_list_int (l := rowsM rows) (j := q) (m := rowM row) rfl (by rw [rowsM_len]; omega) (.inl ⟨by omega, by omega⟩) (by rw [rowsM_get, hrow]; rfl) ?_
          refine ⟨rfl, ?_⟩
          rcases Nat.lt_or_gt_of_ne hq0' with hlt | hgt
          · rw [setTo_lt hrow hlt]; simp [plus, rowsM]
          · rw [setTo_gt hrow hgt, if_neg (by rw [← eh, hh]; decide)]; simp [plus, rowsM]
      · have hnt : q ∈ tl := by simpa using hb
        obtain ⟨hh, hne⟩ := (h4 q hq).mp hnt
        have hgt : p0 < q := by
          rcases Nat.lt_or_gt_of_ne hne with hlt | hgt
          · rw [h3 q hlt] at hh; cases hh
          · exact hgt
        rw [setTo_gt hrow hgt, if_pos (by rw [← eh, hh])]
        rfl
    · rw [setTo_end ht]
      exact cut_all (m := .lst _) (Nat.le_refl _) hw (ok_rows _ _) h
end
end
section
open PySem PySem.W PyProof.Rows
section
variable {W : Wd} {Kf : Frag} {σ : Hp} {n : Nat} {K : MV → Hp → Prop} {KE : Xc → Hp → Prop}

theorem ev_dict1 {sc : Scope} {loc : Loc} (F : Sx W Kf) {k1 v1 : Expr} {pos : Pos} (h : PsP W n sc [(k1, v1)] pos loc σ (fun l σ' => (l.map (·.1)).Nodup ∧ K (.fz (dicF W l)) σ') KE) : EvP W n sc (.Dict [some k1] [v1] pos) loc σ K KE :=
  ev_dict (by simp) (by simp) (fun _ => rfl) h F
theorem ev_dict2 {sc : Scope} {loc : Loc} (F : Sx W Kf) {k1 v1 k2 v2 : Expr} {pos : Pos} (h : PsP W n sc [(k1, v1), (k2, v2)] pos loc σ (fun l σ' => (l.map (·.1)).Nodup ∧ K (.fz (dicF W l)) σ') KE) : EvP W n sc (.Dict [some k1, some k2] [v1, v2] pos) loc σ K KE :=
  ev_dict (by simp) (by simp) (fun _ => rfl) h F

theorem c_law_refused (F : Pr W Kf) (hn : n ≤ 18) {h l : Nat} {rows : List Row} {kind : Int} {key x : Str} (hk : key.length ≤ 100000) (H : HasRows σ h l rows) (hw : wf σ) (hz : rows.length < 900) (ho : rowOks rows) (hx : reSays x = some true)
    (hs : K (.bool true) σ) : CallM W n (.ref 567) [.obj h, .int kind, .str key, .str x, .lst (rowsM rows)] [] σ K KE := by
  refine call_cd (by omega) (CdP.cut ?_)
  obtain ⟨r, D⟩ := F.f567
  refine fn_call (body := bodyOf (topStmt 19)) D F.lim (by omega) rfl ⟨rfl, rfl, rfl⟩ ?_
  refine bd_pos (ps := ["headers", "kind", "name", "value", "rows"]) (fun vs hv => ?_) rfl ?_
  · match vs, hv with
    | [a, b, c, d, e], _ => rfl
  refine ⟨rfl, ?_⟩
  have FX := F.toSx
  have done : ∀ {loc : Loc} {sc : Scope} {E : Hp} {K' : Fl → Loc → Hp → Prop} {KE' : Xc → Loc → Hp → Prop} {e : Expr} {pos : Pos}, True := trivial
  refine exs_cons ?_
  refine ex_try (xc := .val) FX (by omega) rfl rfl rfl ?_
  have fin0 : Cut σ.length K (.bool true) σ := cut_all (m := .bool true) (Nat.le_refl _) hw rfl hs
  walk_at "mv"
  refine op_eq_int ?_
  refine tst_bool ?_
  refine ⟨fun _ => ?_, fun _ => ?_⟩
  · walk_at "mv"
    refine meth_at FX 448 H.inst ?_
    walk_at "mv"
    refine c_set FX F.re F.f543 F.f448 (by omega) hk H hw (by omega) (.str x) hx nofun (fun _ => ?_)
    refine ⟨rfl, ?_⟩
    walk_at "mv"
    exact fin0
  walk_at "mv"
  refine op_eq_int ?_
  refine tst_bool ?_
  refine ⟨fun _ => ?_, fun _ => ?_⟩
  · walk_at "mv"
    refine meth_at FX 429 H.inst ?_
    walk_at "mv"
    refine c_add FX F.re F.f543 F.f429 (by omega) H hw (by omega) (.str x) hx nofun (fun _ => ?_)
    refine ⟨rfl, ?_⟩
    walk_at "mv"
    exact fin0
  walk_at "mv"
  refine op_eq_int ?_
  refine tst_bool ?_
  refine ⟨fun _ => ?_, fun _ => ?_⟩
  · walk_at "mv"
    refine meth_at FX 365 H.inst ?_
    refine evs_cons ?_ (fun _ => rfl)
    refine ev_dict1 FX ?_
    refine ps_cons ?_
    walk_at "mv"
    refine ⟨_, rfl, ?_⟩
    walk_at "mv"
    refine ⟨.s x, rfl, ?_⟩
    refine ps_nil ?_
    refine ⟨by simp, ?_⟩
    walk_at "mv"
    refine c_extend_bad F (by omega) (arg_d1 F) H hw (by omega) rfl hx ?_
    refine ⟨rfl, ?_⟩
    walk_at "mv"
    exact fin0
  walk_at "mv"
  refine op_eq_int ?_
  refine tst_bool ?_
  have els : ∀ (K' : MV → Hp → Prop) (KE' : Xc → Hp → Prop), KE' .val (σ ++ [.inst (some (σ.length + 1))] ++ [.list []]) → CallM W (n + 1) (.ref 527) [.lst [.tup [.str key, .str x]]] [] σ K' KE' := fun K' KE' h' =>
    new_list_bad F (by omega) hw hx h'
  have fin1 : Cut σ.length K (.bool true) (σ ++ [.inst (some (σ.length + 1))] ++ [.list []]) := by
    rw [List.append_assoc]; exact cut_same hw rfl hs
  refine ⟨fun _ => ?_, fun _ => ?_⟩
  · walk_at "mv"
    refine ev_list ?_
    walk_at "mv"
    refine ⟨by simp, ?_⟩
    refine op_ne_rows (b := []) (by omega) ho (fun r hr => by cases hr) ?_
    refine tst_bool ?_
    refine ⟨fun hb => ?_, fun hb => ?_⟩
    · have hne : rows ≠ [] := by simpa using hb
      have hlen : 0 < rows.length := List.length_pos_iff.mpr hne
      walk_at "mv"
      refine ⟨fun _ => ?_, nofun⟩
      walk_at "mv"
      refine ⟨by simp, ?_⟩
      refine as_sub ?_
      walk_at "mv"
      refine setItem_inst F.toSy H.inst ?_
      refine c_setitem_int F (by omega) hk H hw (by omega) (by omega) hx nofun (fun _ => ?_)
      refine ⟨rfl, ?_⟩
      walk_at "mv"
      exact fin0
    · refine ⟨nofun, fun _ => ?_⟩
      walk_at "mv"
      refine ⟨_, rfl, by walk_at "mv_keep", ?_⟩
      refine evs_cons ?_ (fun _ => rfl)
      refine ev_list ?_
      walk_at "mv"
      refine ⟨by simp, ?_⟩
      walk_at "mv"
      refine ⟨by simp, ?_⟩
      walk_at "mv"
      refine els _ _ ?_
      refine ⟨rfl, ?_⟩
      walk_at "mv"
      exact fin1
  · refine ⟨nofun, fun _ => ?_⟩
    walk_at "mv"
    refine ⟨_, rfl, by walk_at "mv_keep", ?_⟩
    refine evs_cons ?_ (fun _ => rfl)
    refine ev_list ?_
    walk_at "mv"
    refine ⟨by simp, ?_⟩
    walk_at "mv"
    refine ⟨by simp, ?_⟩
    walk_at "mv"
    refine els _ _ ?_
    refine ⟨rfl, ?_⟩
    walk_at "mv"
    exact fin1
end
end
section
open PySem PySem.W PyProof.Rows
section
variable {W : Wd} {σ : Hp} {n : Nat} {K : MV → Hp → Prop} {KE : Xc → Hp → Prop}
theorem ev_neg1 {sc : Scope} {loc : Loc} {i : Int} {k : Nat} {p pos : Pos} (h : K (.int (-i)) σ) : EvP W n sc (.UnaryOp .USub (.Constant (.int i) k p) pos) loc σ K KE := by with_unfolding_all exact (fun c g ρ s C G =>
  wpAny_UnaryOp (wpAny_Constant_int (P.neg_int (Post.now (s := { s with toks := s.toks + 1 + 1 }) (G.tok _) (.int _ _) h |>.after (Step.tok _)))))
end
section
variable {W : Wd} {Kf : Frag} {σ : Hp} {n : Nat} {K : MV → Hp → Prop} {KE : Xc → Hp → Prop}

/-- a row that the law may compare -/
structure Good1 (r : Row) : Prop where
  pl : Plain r.2
  kl : r.1.length ≤ 100
  vl : r.2.length ≤ 100
  ks : PyData.strOk r.1 = true
  vs : PyData.strOk r.2 = true
  ls : PyData.strOk (low r.1) = true
def Goods (rows : List Row) : Prop := ∀ r ∈ rows, Good1 r
theorem Goods.oks {rows : List Row} (h : Goods rows) : rowOks rows := fun r hr => ⟨(h r hr).ks, (h r hr).vs⟩
theorem Goods.clean {rows : List Row} (h : Goods rows) : Clean rows := fun r hr => ⟨(h r hr).pl, by have := (h r hr).kl; omega⟩
theorem Goods.short {rows : List Row} (h : Goods rows) : Short rows := fun r hr => ⟨by have := (h r hr).kl; omega, by have := (h r hr).vl; omega⟩

theorem app_assoc (a b c : Str) : a ++ b ++ c = a ++ (b ++ c) := Str.ext' (by simp only [Str.cps_append, Array.append_assoc])
theorem app_nil (a : Str) : a ++ Str.empty = a := str_append_nil rfl
theorem join_cons (sep a b : Str) (l : List Str) : Txt.join sep (a :: b :: l) = a ++ sep ++ Txt.join sep (b :: l) := by
  unfold Txt.join; rw [StrLaws.glued_eq_join, StrLaws.glued_eq_join]; rfl
theorem join_empty : ∀ (a : Str) (l : List Str), Txt.join Str.empty (a :: l) = a ++ Txt.join Str.empty l
  | a, [] => (app_nil a).symm
  | a, b :: l => by rw [join_cons, app_nil]
/-- the lines, told at once -/
def linesOf (rows : List Row) : Str := Txt.join Str.empty (rows.map fun r => lineOf r ++ crlf)
theorem strOf_lines : ∀ rows : List Row, strOf rows = linesOf rows ++ crlf
  | [] => by
    show crlf = Str.empty ++ crlf
    exact (nil_app _).symm
  | r :: rows => by
    have ih := strOf_lines rows
    have e1 : strOf (r :: rows) = lineOf r ++ crlf ++ strOf rows := by
      unfold strOf
      cases rows with
      | nil => exact join_cons _ _ _ _
      | cons a l => exact join_cons _ _ _ _
    have e2 : linesOf (r :: rows) = (lineOf r ++ crlf) ++ linesOf rows := by
      unfold linesOf
      rw [List.map_cons, join_empty]
    rw [e1, e2, ih, app_assoc (lineOf r ++ crlf)]

def names4 : List Str := ["X-A", "x-a", "Host", "none"]
theorem names4_ok : ∀ nm ∈ names4, nm.length ≤ 10 := by decide +kernel
theorem find_getAll (key : Str) : ∀ rows : List Row, (findRow key rows).map (·.2) = (getAll key rows).head?
  | [] => rfl
  | r :: rows => by
    have ih := find_getAll key rows
    unfold findRow getAll at ih ⊢
    rw [List.find?_cons, List.filter_cons]
    cases hb : (low r.1 == low key) with
    | true => simp
    | false => simpa using ih
theorem getAll_take (key : Str) {rows : List Row} {q : Nat} {r : Row} (hr : rows[q]? = some r) : getAll key (rows.take (q + 1)) = if (low r.1 == low key) = true then getAll key (rows.take q) ++ [r.2] else getAll key (rows.take q) := by
  rw [List.take_add_one, hr]
  simp only [getAll, Option.toList_some, List.filter_append, List.filter_cons, List.filter_nil, List.map_append]
  cases hb : (low r.1 == low key) <;> simp
theorem getAll_oks {key : Str} {rows : List Row} (h : Goods rows) : strOks (getAll key rows) := fun x hx => by
  rw [getAll, List.mem_map] at hx
  obtain ⟨r, hr, rfl⟩ := hx
  exact (h r (List.mem_filter.mp hr).1).vs
theorem getAll_len (key : Str) (rows : List Row) : (getAll key rows).length ≤ rows.length := by rw [getAll, List.length_map]; exact List.length_filter_le _ _

def likeLoc (h : Nat) (rows : List Row) : Loc := [("headers", .obj h), ("rows", .lst (rowsM rows))]

theorem c_law_like (F : Pr W Kf) (hn : n ≤ 12) {h l : Nat} {rows : List Row} (H : HasRows σ h l rows) (hw : wf σ) (hz : rows.length < 900) (hg : Goods rows)
    (hs : K (.bool true) σ) : CallM W n (.ref 555) [.obj h, .lst (rowsM rows)] [] σ K KE := by
  refine call_cd (by omega) (CdP.cut ?_)
  obtain ⟨r, D⟩ := F.f555
  refine fn_call (body := bodyOf (topStmt 17)) D F.lim (by omega) rfl ⟨rfl, rfl, rfl⟩ ?_
  refine bd_pos (ps := ["headers", "rows"]) (fun vs hv => ?_) rfl ?_
  · match vs, hv with
    | [a, b], _ => rfl
  refine ⟨rfl, ?_⟩
  have FX := F.toSx
  walk_at "mv"
  refine ⟨_, rfl, by walk_at "mv_keep", ?_⟩
  walk_at "mv"
  refine call_list_inst F (by omega) H hw ?_
  walk_at "mv"
  refine op_ne_rows (by omega) hg.oks hg.oks ?_
  rw [show decide (rows = rows) = true by simp]
  refine tst_bool ?_
  refine ⟨fun _ => ?_, nofun⟩
  walk_at "mv"
  refine ⟨_, rfl, by walk_at "mv_keep", ?_⟩
  walk_at "mv"
  refine call_len_inst FX.toSf H.inst (by omega) ?_
  refine c_len FX F.f422 (by omega) H hw ?_
  refine ⟨rows.length, by omega, rfl, ?_⟩
  walk_at "mv"
  refine ⟨_, rfl, by walk_at "mv_keep", ?_⟩
  walk_at "mv"
  refine call_len (l := rowsM rows) rfl (by rw [rowsM_len]; omega) ?_
  rw [rowsM_len]
  refine op_ne_int ?_
  rw [show ((rows.length : Int) != rows.length) = false by simp]
  refine tst_bool ?_
  refine ⟨fun _ => ?_, nofun⟩
  walk_at "mv"
  refine ⟨_, rfl, by walk_at "mv_keep", ?_⟩
  walk_at "mv"
  refine call_str_inst FX.toSf H.inst (by omega) ?_
  have hlens : (rows.map fun r => (lineOf r).length).sum ≤ rows.length * 210 ∧ (rows.map fun r => (lineOf r ++ crlf).length).sum ≤ rows.length * 210 := by
    clear hs H hz
    induction rows with
    | nil => exact ⟨Nat.le_refl _, Nat.le_refl _⟩
    | cons r rows ih =>
      have h1 := hg r (.head _)
      obtain ⟨i1, i2⟩ := ih (fun r' hr' => hg r' (.tail _ hr'))
      have hl : (lineOf r).length ≤ 202 := by
        unfold lineOf
        rw [len_app, len_app]
        have := h1.kl
        have := h1.vl
        have : (Str.ofString ": ").length = 2 := rfl
        omega
      have hl2 : (lineOf r ++ crlf).length ≤ 204 := by rw [len_app]; have : crlf.length = 2 := rfl; omega
      simp only [List.map_cons, List.sum_cons, List.length_cons]
      omega
  refine c_str F (by omega) H hw (by omega) ?_
  refine ⟨_, rfl, ?_⟩
  walk_at "mv"
  refine ⟨_, getM_join, by walk_at "mv_keep", ?_⟩
  refine evs_cons ?_ (fun _ => rfl)
  refine ev_comp_rows (rows := rows) (fun r => .str (lineOf r ++ crlf)) [] rfl capL_nil (fun _ _ => rfl) (by omega) rfl rfl rfl rfl (fun K' hK => ?_) (fun k _ => rfl) hw (by omega) (fun _ _ => rfl) (fun r hr τ _ _ K' hK => ?_) ?_
  · walk_at "mv"; exact hK
  · have h1 := hg r hr
    have := h1.kl
    have := h1.vl
    have : (Str.ofString ": ").length = 2 := rfl
    have : (Str.ofString "\r\n").length = 2 := rfl
    walk_at "mv"
    refine op_add_str (by omega) ?_
    walk_at "mv"
    refine op_add_str (by rw [len_app]; omega) ?_
    walk_at "mv"
    refine op_add_str (by rw [len_app, len_app]; omega) ?_
    exact hK
  rw [show (rows.map fun r => MV.str (lineOf r ++ crlf)) = strsM (rows.map fun r => lineOf r ++ crlf) by simp [strsM]]
  walk_at "mv"
  refine call_join (ys := rows.map fun r => lineOf r ++ crlf) rfl ?_ ?_
  · rw [List.map_map]
    have e : (rows.map ((fun x => x.length) ∘ fun r => lineOf r ++ crlf)).sum = (rows.map fun r => (lineOf r ++ crlf).length).sum := rfl
    have : (Str.ofString "").length = 0 := rfl
    rw [this, e]; omega
  walk_at "mv"
  have hjl : (linesOf rows).length ≤ 190000 := by
    have := StrLaws.join_length_le Str.empty (rows.map fun r => lineOf r ++ crlf)
    rw [← StrLaws.glued_eq_join] at this
    have e0 : Str.empty.length = 0 := rfl
    rw [List.map_map, e0] at this
    have e : (rows.map ((fun x => x.length) ∘ fun r => lineOf r ++ crlf)).sum = (rows.map fun r => (lineOf r ++ crlf).length).sum := rfl
    have e' : (linesOf rows).length = (Builtin.Str.glued Str.empty (rows.map fun r => lineOf r ++ crlf)).length := rfl
    have e2 : (rows.map (Str.length ∘ fun r => lineOf r ++ crlf)).sum = (rows.map fun r => (lineOf r ++ crlf).length).sum := rfl
    rw [e']
    omega
  refine op_add_str (a := linesOf rows) (b := crlf) (by have : crlf.length = 2 := rfl; omega) ?_
  rw [← strOf_lines]
  refine op_ne_str ?_
  rw [show (strOf rows == strOf rows) = true by simp]
  refine tst_bool ?_
  refine ⟨fun _ => ?_, nofun⟩
  walk_at "mv"
  refine ⟨nofun, fun _ => ?_⟩
  refine exs_nil ?_
  dsimp only
  refine exs_cons ?_
  refine ex_for ?_ (fun _ _ => rfl)
  refine ev_tuple ?_
  walk_at "mv"
  refine ⟨by simp, ?_⟩
  refine iter_tuple ?_
  have wT : ∀ p, wf (σ ++ [.sem (tupIt (strsM names4) p)]) := fun p => hw.app fun k _ => by simp only [MO.ok, tupIt, objSem]; exact strsM_ok _ _
  refine loop_ind (fun m loc' σ' => ∃ p, m = 4 - p ∧ p ≤ 4 ∧ loc' = _ ∧ σ' = σ ++ [.sem (tupIt (strsM names4) p)]) ?_ 4 ⟨0, rfl, Nat.zero_le _, rfl, rfl⟩
  rintro m loc' σ' ⟨p, rfl, hp, rfl, rfl⟩
  refine nxt_tuple (by omega) (lookup_last _ _) (fun mv hm => ?_) (fun hm => ?_)
  · rw [set_last]
    rw [strsM, List.getElem?_map, Option.map_eq_some_iff] at hm
    obtain ⟨nm, hnm, rfl⟩ := hm
    have hpl := (List.getElem?_eq_some_iff.mp hnm).1
    have hnl := names4_ok nm (List.mem_of_getElem? hnm)
    have hp4 : p < 4 := hpl
    have H2 := H.app [.sem (tupIt (strsM names4) (p + 1))]
    have w2 := wT (p + 1)
    have hgo := getAll_oks (key := nm) hg
    have hgl := getAll_len nm rows
    generalize hτ : σ ++ [MO.sem (tupIt (strsM names4) (p + 1))] = τ at *
    refine as_name rfl ?_
    refine exs_cons ?_
    refine ex_comp_list (items := rowsM rows) [("name", .str nm)] rfl (fun env h => by cases env; cases h; rfl) rfl (capL_cons rfl rfl capL_nil) (fun _ _ => rfl) (by omega) (fun K' hK => ?_) (fun k _ => rfl) w2 (fun q => strsM (getAll nm (rows.take q))) rfl (fun q hq => ⟨by have := getAll_len nm (rows.take q); rw [List.length_take] at this; simp only [strsM, List.length_map]; omega, fun k => strsM_ok k _⟩) (fun k => ok_rows k _) (fun q m hm τ' hwτ hx => ?_) ?_
    · walk_at "mv"; exact hK
    · rw [rowsM_get, Option.map_eq_some_iff] at hm
      obtain ⟨r, hr, rfl⟩ := hm
      have h1 := hg r (List.mem_of_getElem? hr)
      refine aq_tuple (by omega) rfl (fun _ => ⟨rfl, rfl⟩) ?_
      refine aqs_cons ?_ (fun _ => rfl)
      refine aq_name rfl ?_
      refine aqs_cons ?_ (fun _ => rfl)
      refine aq_name rfl ?_
      refine aqs_nil ?_
      refine ⟨rfl, sub_cons rfl (sub_cons rfl (SubL.refl _)), ?_⟩
      refine tests_one ?_
      walk_at "mv"
      refine ⟨_, getM_lower, keep_builtin _, ?_⟩
      walk_at "mv"
      refine call_lower (by have := h1.kl; omega) ?_
      walk_at "mv"
      refine ⟨_, getM_lower, keep_builtin _, ?_⟩
      walk_at "mv"
      refine call_lower (by omega) ?_
      walk_at "mv"
      refine op_eq_str ?_
      refine tst_bool ?_
      refine ⟨rfl, fun hb => ?_, fun hb => ?_⟩
      · walk_at "mv"
        refine ⟨rfl, ?_⟩
        rw [getAll_take nm hr, show (low r.1 == low nm) = true from hb]
        simp [plus, strsM]
      · rw [getAll_take nm hr, show (low r.1 == low nm) = false from hb]
        simp [plus]
    rw [rowsM_len, List.take_length]
    walk_at "mv"
    refine meth_at FX 327 H2.inst ?_
    walk_at "mv"
    refine c_getlist FX F.f327 F.f415 (by omega) (by omega) H2 w2 ?_
    walk_at "mv"
    refine op_ne_strs (by omega) hgo hgo ?_
    rw [show decide (getAll nm rows = getAll nm rows) = true by simp]
    refine tst_bool ?_
    refine ⟨fun _ => ?_, nofun⟩
    walk_at "mv"
    refine op_in_inst FX.toSf H2.inst ?_
    refine c_contains FX F.f408 F.f309 (by omega) (by omega) H2 w2 ?_
    refine ⟨_, rfl, ?_⟩
    walk_at "mv"
    refine ev_list ?_
    walk_at "mv"
    refine ⟨by simp, ?_⟩
    refine op_ne_strs (b := []) (by omega) hgo (fun x hx => by cases hx) ?_
    refine op_ne_bool (by omega) ?_
    have hfg := find_getAll nm rows
    have e1 : ((findRow nm rows).isSome != !decide (getAll nm rows = [])) = false := by
      cases hf : findRow nm rows with
      | none =>
        rw [hf] at hfg
        have : getAll nm rows = [] := List.head?_eq_none_iff.mp hfg.symm
        simp [this]
      | some r =>
        rw [hf] at hfg
        have : getAll nm rows ≠ [] := fun e => by rw [e] at hfg; cases hfg
        simp [this]
    rw [e1]
    refine tst_bool ?_
    refine ⟨fun _ => ?_, nofun⟩
    walk_at "mv"
    refine meth_at FX 322 H2.inst ?_
    walk_at "mv"
    refine c_get FX F.f322 F.f309 (by omega) (by omega) H2 w2 ?_
    walk_at "mv"
    refine ev_list ?_
    walk_at "mv"
    refine ⟨by simp, ?_⟩
    refine op_add_lists (l := strsM (getAll nm rows)) (l' := [.str "-"]) rfl rfl (by simp only [strsM, List.length_map, List.length_cons, List.length_nil]; omega) ?_
    walk_at "mv"
    refine sub_list_int (l := strsM (getAll nm rows) ++ [.str "-"]) (j := 0) (m := .str (((getAll nm rows).head?).getD "-")) rfl (by simp only [strsM, List.length_append, List.length_map, List.length_cons, List.length_nil]; omega) (.inl ⟨by omega, rfl⟩) (by cases getAll nm rows <;> rfl) ?_
    rw [hfg]
    refine op_ne_str ?_
    rw [show ((((getAll nm rows).head?).getD "-" : Str) == ((getAll nm rows).head?).getD "-") = true by simp]
    refine tst_bool ?_
    refine ⟨fun _ => ?_, nofun⟩
    walk_at "mv"
    refine ⟨nofun, fun _ => ?_⟩
    refine exs_nil ?_
    dsimp only
    refine exs_cons ?_
    refine ex_try (xc := .key) FX (by omega) rfl rfl rfl ?_
    have fin : ∀ loc : Loc, SubL (likeLoc h rows) loc → ∃ m', m' < 4 - p ∧ Less (max (σ.length + 1) (σ ++ [MO.sem (tupIt (strsM names4) 0)]).length) (fun loc' σ' => ∃ p, m' = 4 - p ∧ p ≤ 4 ∧ loc' = likeLoc h rows ∧ σ' = σ ++ [.sem (tupIt (strsM names4) p)]) loc τ := fun loc hsub => by
      refine ⟨4 - (p + 1), by omega, ?_⟩
      subst hτ
      refine less_full (by simp) hsub ?_ w2 ⟨p + 1, rfl, by omega, rfl, rfl⟩
      have := (List.getElem?_eq_some_iff.mp H.inst).1
      simp [likeLoc, locOk, MV.ok, ok_rows]; omega
    walk_at "mv"
    refine sub_inst F.toSy H2.inst (by omega) (fun _ _ => rfl) ?_
    refine c_getitem_str FX F.f302 F.f309 (by omega) (by omega) H2 w2 (fun rr hrr => ?_) (fun hrr => ?_)
    · rw [hrr] at hfg
      have hne : getAll nm rows ≠ [] := fun e => by rw [e] at hfg; cases hfg
      walk_at "mv"
      refine ev_list ?_
      walk_at "mv"
      refine ⟨by simp, ?_⟩
      refine op_add_lists (l := strsM (getAll nm rows)) (l' := [.str "refused"]) rfl rfl (by simp only [strsM, List.length_map, List.length_cons, List.length_nil]; omega) ?_
      walk_at "mv"
      refine sub_list_int (l := strsM (getAll nm rows) ++ [.str "refused"]) (j := 0) (m := .str rr.2) rfl (by simp only [strsM, List.length_append, List.length_map, List.length_cons, List.length_nil]; omega) (.inl ⟨by omega, rfl⟩) (by
        cases hgg : getAll nm rows with
        | nil => exact absurd hgg hne
        | cons a l => rw [hgg] at hfg; cases hfg; rfl) ?_
      refine op_ne_str ?_
      rw [show (rr.2 == rr.2) = true by simp]
      refine tst_bool ?_
      refine ⟨fun _ => ?_, nofun⟩
      walk_at "mv"
      refine ev_list ?_
      walk_at "mv"
      refine ⟨by simp, ?_⟩
      refine op_eq_strs (b := []) (by omega) hgo (fun x hx => by cases hx) ?_
      rw [decide_eq_false hne]
      refine tst_bool ?_
      refine ⟨fun _ => ?_, nofun⟩
      walk_at "mv"
      refine ⟨nofun, fun _ => ?_⟩
      refine exs_nil ?_
      dsimp only
      refine exs_nil ?_
      dsimp only
      refine exs_nil ?_
      dsimp only
      refine fin _ ?_
      exact sub_cons rfl (sub_cons rfl (SubL.refl _))
    · rw [hrr] at hfg
      have hne : getAll nm rows = [] := List.head?_eq_none_iff.mp hfg.symm
      refine ⟨rfl, ?_⟩
      walk_at "mv"
      refine ev_list ?_
      walk_at "mv"
      refine ⟨by simp, ?_⟩
      refine op_ne_strs (b := []) (by omega) hgo (fun x hx => by cases hx) ?_
      rw [decide_eq_true hne]
      refine tst_bool ?_
      refine ⟨nofun, fun _ => ?_⟩
      refine exs_nil ?_
      dsimp only
      refine exs_nil ?_
      dsimp only
      refine exs_nil ?_
      dsimp only
      refine fin _ ?_
      exact sub_cons rfl (sub_cons rfl (SubL.refl _))
  · rw [set_last]
    refine exs_nil ?_
    dsimp only
    have H2 := H.app [MO.dead]
    have w2 : wf (σ ++ [MO.dead]) := hw.app fun k _ => rfl
    have hll := (List.getElem?_eq_some_iff.mp H.list).1
    have hhl := (List.getElem?_eq_some_iff.mp H.inst).1
    have hw0 := w2
    -- the end: keys and values
    have tail : ExsP W (n + 1) (scopeOf (topStmt 17)) ((bodyOf (topStmt 17)).drop 3) (likeLoc h rows) (σ ++ [MO.dead]) (fun fl l₂ σ₂ => Cut σ.length K (retOf fl) σ₂) (fun x l₂ σ₂ => CutX σ.length KE x σ₂) := by
      have hKo : strOks (rows.map fun r => low r.1) := fun x hx => by
        obtain ⟨r, hr, rfl⟩ := List.mem_map.mp hx; exact (hg r hr).ls
      have hVo : strOks (rows.map (·.2)) := fun x hx => by
        obtain ⟨r, hr, rfl⟩ := List.mem_map.mp hx; exact (hg r hr).vs
      refine exs_cons ?_
      refine ex_return ?_
      refine ev_and ?_
      refine ev_compare ?_ rfl
      refine ev_call (fun _ _ => rfl) (fun _ => rfl) ?_
      refine ev_builtin FX.toSf rfl rfl rfl ?_
      refine ⟨_, rfl, keep_type _, ?_⟩
      refine evs_cons ?_ (fun _ => rfl)
      refine ev_mcall_kw (fun _ => rfl) rfl ?_
      refine ev_local (m := .obj h) rfl rfl rfl ?_
      refine meth_at FX 350 H2.inst ?_
      refine ev_bool ?_
      refine c_keys (rows := rows) (l := l) F (by omega) (by omega) ?_
      refine evs_nil ?_
      have H3 := H2.app [keysS W h l rows true 2000 ([], 0)]
      have w3 : wf (σ ++ [MO.dead] ++ [keysS W h l rows true 2000 ([], 0)]) := w2.app fun k hk => by
        simp only [List.length_append, List.length_cons, List.length_nil] at hk
        simp [MO.ok, genS, locOk, keysLoc, MV.ok]; omega
      refine call_list_proj (f := keyY true) F (by omega) (by omega) H3 w3 (m := 2000) (by omega) (by omega) (fun _ _ => rfl) (lookup_last _ _) ?_
      rw [set_last]
      have H4 := H2.app [MO.dead]
      have w4 : wf (σ ++ [MO.dead] ++ [MO.dead]) := w2.app fun k _ => rfl
      refine ev_comp_rows (rows := rows) (fun r => .str (low r.1)) [] rfl capL_nil (fun _ _ => rfl) (by omega) rfl rfl rfl rfl (fun K' hK => ?_) (fun k _ => rfl) w4 (by omega) (fun _ _ => rfl) (fun r hr τ _ _ K' hK => ?_) ?_
      · refine ev_local rfl rfl rfl ?_; exact hK
      · have h1 := hg r hr
        walk_at "mv"
        refine ⟨_, getM_lower, keep_builtin _, ?_⟩
        walk_at "mv"
        refine call_lower (by have := h1.kl; omega) ?_
        exact hK
      rw [show (rows.map (keyY true)) = strsM (rows.map fun r => low r.1) by simp only [strsM, List.map_map]; rfl, show (rows.map fun r => MV.str (low r.1)) = strsM (rows.map fun r => low r.1) by simp only [strsM, List.map_map]; rfl]
      refine op_eq_strs (by omega) hKo hKo ?_
      rw [show decide ((rows.map fun r => low r.1) = rows.map fun r => low r.1) = true by simp]
      refine tst_bool ?_
      refine ⟨fun _ => ?_, nofun⟩
      refine ev_bool_one ?_
      refine ev_compare ?_ rfl
      refine ev_call (fun _ _ => rfl) (fun _ => rfl) ?_
      refine ev_builtin FX.toSf rfl rfl rfl ?_
      refine ⟨_, rfl, keep_type _, ?_⟩
      refine evs_cons ?_ (fun _ => rfl)
      refine ev_mcall (fun _ _ => rfl) (fun _ => rfl) (by decide) rfl ?_
      refine ev_local (m := .obj h) rfl rfl rfl ?_
      refine meth_at FX 357 H4.inst ?_
      refine evs_nil ?_
      refine c_values (rows := rows) (l := l) F (by omega) (by omega) ?_
      refine evs_nil ?_
      have H5 := H4.app [valsS W h l rows 2000 ([], 0)]
      have w5 : wf (σ ++ [MO.dead] ++ [MO.dead] ++ [valsS W h l rows 2000 ([], 0)]) := w4.app fun k hk => by
        simp only [List.length_append, List.length_cons, List.length_nil] at hk
        simp [MO.ok, genS, locOk, valsLoc, MV.ok]; omega
      refine call_list_proj (f := valY) F (by omega) (by omega) H5 w5 (m := 2000) (by omega) (by omega) (fun _ _ => rfl) (lookup_last _ _) ?_
      rw [set_last]
      have w6 : wf (σ ++ [MO.dead] ++ [MO.dead] ++ [MO.dead]) := w4.app fun k _ => rfl
      refine ev_comp_rows (rows := rows) (fun r => .str r.2) [] rfl capL_nil (fun _ _ => rfl) (by omega) rfl rfl rfl rfl (fun K' hK => ?_) (fun k _ => rfl) w6 (by omega) (fun _ _ => rfl) (fun r hr τ _ _ K' hK => ?_) ?_
      · refine ev_local rfl rfl rfl ?_; exact hK
      · refine ev_local rfl rfl rfl ?_; exact hK
      rw [show (rows.map valY) = strsM (rows.map (·.2)) by simp only [strsM, List.map_map]; rfl, show (rows.map fun r => MV.str r.2) = strsM (rows.map (·.2)) by simp only [strsM, List.map_map]; rfl]
      refine op_eq_strs (by omega) hVo hVo ?_
      rw [show decide ((rows.map (·.2)) = rows.map (·.2)) = true by simp]
      dsimp only
      rw [List.append_assoc, List.append_assoc]
      exact cut_same hw rfl hs
    walk_at "mv"
    refine ev_list ?_
    walk_at "mv"
    refine ⟨by simp, ?_⟩
    refine op_ne_rows (b := []) (by omega) hg.oks (fun x hx => by cases hx) ?_
    refine tst_bool ?_
    refine ⟨fun hb => ?_, fun hb => ?_⟩
    · have hne : rows ≠ [] := by simpa using hb
      have hlen : 0 < rows.length := List.length_pos_iff.mpr hne
      obtain ⟨j, hj⟩ : ∃ j, j = rows.length / 2 := ⟨_, rfl⟩
      have hjl : j < rows.length := by omega
      have hfd : ((rows.length : Int)).fdiv 2 = (j : Int) := by
        rw [Int.fdiv_eq_ediv_of_nonneg _ (by omega), hj]; omega
      obtain ⟨row, hrow⟩ : ∃ row, rows[j]? = some row := ⟨rows[j], List.getElem?_eq_getElem hjl⟩
      obtain ⟨rw1, hrw1⟩ : ∃ row, rows[rows.length - 1]? = some row := ⟨rows[rows.length - 1], List.getElem?_eq_getElem (by omega)⟩
      have g1 := hg row (List.mem_of_getElem? hrow)
      have g2 := hg rw1 (List.mem_of_getElem? hrw1)
      walk_at "mv"
      refine ⟨_, rfl, by walk_at "mv_keep", ?_⟩
      walk_at "mv"
      refine call_len (l := rowsM rows) rfl (by rw [rowsM_len]; omega) ?_
      rw [rowsM_len]
      walk_at "mv"
      refine op_fdiv_int (by decide) (by decide) ?_
      rw [hfd]
      refine sub_inst F.toSy H2.inst (by omega) (fun _ _ => rfl) ?_
      refine c_getitem_int FX F.f302 (by omega) H2 w2 (.inl ⟨by omega, by omega⟩) hrow ?_
      walk_at "mv"
      refine ⟨_, rfl, by walk_at "mv_keep", ?_⟩
      walk_at "mv"
      refine call_len (l := rowsM rows) rfl (by rw [rowsM_len]; omega) ?_
      rw [rowsM_len]
      walk_at "mv"
      refine op_fdiv_int (by decide) (by decide) ?_
      rw [hfd]
      refine sub_list_int (l := rowsM rows) (j := j) (m := rowM row) rfl (by rw [rowsM_len]; omega) (.inl ⟨by omega, by omega⟩) (by rw [rowsM_get, hrow]; rfl) ?_
      refine op_ne_row (by omega) ⟨g1.ks, g1.vs⟩ ⟨g1.ks, g1.vs⟩ ?_
      rw [show decide (row = row) = true by simp]
      refine tst_bool ?_
      refine ⟨fun _ => ?_, nofun⟩
      walk_at "mv"
      refine ev_neg1 ?_
      refine sub_inst F.toSy H2.inst (by omega) (fun _ _ => rfl) ?_
      refine c_getitem_int (j := rows.length - 1) FX F.f302 (by omega) H2 w2 (.inr ⟨by omega, by omega, by omega⟩) hrw1 ?_
      walk_at "mv"
      refine ev_neg1 ?_
      refine sub_list_int (l := rowsM rows) (j := rows.length - 1) (m := rowM rw1) rfl (by rw [rowsM_len]; omega) (.inr ⟨by omega, by rw [rowsM_len]; omega, by rw [rowsM_len]; omega⟩) (by rw [rowsM_get, hrw1]; rfl) ?_
      refine op_ne_row (by omega) ⟨g2.ks, g2.vs⟩ ⟨g2.ks, g2.vs⟩ ?_
      rw [show decide (rw1 = rw1) = true by simp]
      refine tst_bool ?_
      refine ⟨fun _ => ?_, nofun⟩
      walk_at "mv"
      refine ⟨nofun, fun _ => ?_⟩
      refine ⟨nofun, fun _ => ?_⟩
      refine exs_nil ?_
      exact tail
    · refine ⟨nofun, fun _ => ?_⟩
      refine exs_nil ?_
      exact tail
end
end
section
open PySem PySem.W PyProof.Rows
/-! a set's table of eight slots -/
def placeF (f : Nat → Bool) : Array Nat := ((List.range 8).filter f).toArray
def fOf (b0 b1 b2 b3 b4 b5 b6 b7 : Bool) : Nat → Bool := fun j => [b0, b1, b2, b3, b4, b5, b6, b7].getD j false
theorem placeF_of (f : Nat → Bool) : placeF f = placeF (fOf (f 0) (f 1) (f 2) (f 3) (f 4) (f 5) (f 6) (f 7)) := by
  unfold placeF
  congr 1
theorem below_all : ∀ b0 b1 b2 b3 b4 b5 b6 b7 : Bool, ∀ j ∈ List.range 8, SetTable.below (placeF (fOf b0 b1 b2 b3 b4 b5 b6 b7)) j = ((List.range j).filter (fOf b0 b1 b2 b3 b4 b5 b6 b7)).length := by
  decide +kernel
theorem slot_all : ∀ b0 b1 b2 b3 b4 b5 b6 b7 : Bool, ∀ j ∈ List.range 8, ((placeF (fOf b0 b1 b2 b3 b4 b5 b6 b7))[SetTable.below (placeF (fOf b0 b1 b2 b3 b4 b5 b6 b7)) j]? == some j) = fOf b0 b1 b2 b3 b4 b5 b6 b7 j := by
  decide +kernel
theorem filter8 (f : Nat → Bool) {j : Nat} (hj : j < 8) : (List.range j).filter f = (List.range j).filter (fOf (f 0) (f 1) (f 2) (f 3) (f 4) (f 5) (f 6) (f 7)) := by
  refine List.filter_congr fun x hx => ?_
  have hx := List.mem_range.mp hx
  match x, (by omega : x < 8) with
  | 0, _ => rfl
  | 1, _ => rfl
  | 2, _ => rfl
  | 3, _ => rfl
  | 4, _ => rfl
  | 5, _ => rfl
  | 6, _ => rfl
  | 7, _ => rfl
theorem fOf_at (f : Nat → Bool) {j : Nat} (hj : j < 8) : fOf (f 0) (f 1) (f 2) (f 3) (f 4) (f 5) (f 6) (f 7) j = f j := by
  match j, hj with
  | 0, _ => rfl
  | 1, _ => rfl
  | 2, _ => rfl
  | 3, _ => rfl
  | 4, _ => rfl
  | 5, _ => rfl
  | 6, _ => rfl
  | 7, _ => rfl
theorem below_at (f : Nat → Bool) {j : Nat} (hj : j < 8) : SetTable.below (placeF f) j = ((List.range j).filter f).length := by
  rw [placeF_of, filter8 f hj]
  exact below_all _ _ _ _ _ _ _ _ j (List.mem_range.mpr hj)
theorem slot_at (f : Nat → Bool) {j : Nat} (hj : j < 8) : ((placeF f)[SetTable.below (placeF f) j]? == some j) = f j := by
  rw [placeF_of, slot_all _ _ _ _ _ _ _ _ j (List.mem_range.mpr hj), fOf_at f hj]

/-- where a search looks, turn after turn -/
def seqJ (h : Int) : Nat → Nat
  | 0 => SetTable.bits h % 8
  | k + 1 => (seqJ h k * 5 + 1 + SetTable.bits h / 32 ^ (k + 1)) % 8
theorem seqJ_lt (h : Int) (k : Nat) : seqJ h k < 8 := by
  cases k <;> exact Nat.mod_lt _ (by decide)
theorem bits_lt (h : Int) : SetTable.bits h < 2 ^ 64 := by
  unfold SetTable.bits
  have h1 := Int.emod_nonneg h (by decide : (2 ^ 64 : Int) ≠ 0)
  have h2 := Int.emod_lt_of_pos h (by decide : (0 : Int) < 2 ^ 64)
  omega
theorem bits_done (h : Int) {k : Nat} (hk : 13 ≤ k) : SetTable.bits h / 32 ^ k = 0 := by
  refine Nat.div_eq_of_lt (Nat.lt_of_lt_of_le (bits_lt h) ?_)
  calc (2 : Nat) ^ 64 ≤ 32 ^ 13 := by decide
    _ ≤ 32 ^ k := Nat.pow_le_pow_right (by decide) hk
def cyc : Nat → Nat → Nat
  | 0, x => x
  | k + 1, x => (cyc k x * 5 + 1) % 8
theorem seqJ_cyc (h : Int) : ∀ k, seqJ h (13 + k) = cyc k (seqJ h 13)
  | 0 => rfl
  | k + 1 => by
    show seqJ h (13 + k + 1) = _
    unfold seqJ cyc
    rw [bits_done h (by omega), seqJ_cyc h k]
    rfl
theorem cyc_all : ∀ x ∈ List.range 8, ∀ j ∈ List.range 8, ∃ k ∈ List.range 8, cyc k x = j := by decide +kernel
/-- every slot comes up -/
theorem seqJ_all (h : Int) {j : Nat} (hj : j < 8) : ∃ k, k < 21 ∧ seqJ h k = j := by
  obtain ⟨k, hk, e⟩ := cyc_all (seqJ h 13) (List.mem_range.mpr (seqJ_lt h 13)) j (List.mem_range.mpr hj)
  have := List.mem_range.mp hk
  exact ⟨13 + k, by omega, by rw [seqJ_cyc, e]⟩

def stP (h : Int) (k : Nat) : SetTable.Probe := { j := seqJ h k, more := 0, i := seqJ h k, perturb := SetTable.bits h / 32 ^ k, dummy := none }
theorem start_at {t : SetTable} (hm : t.mask = 7) (h : Int) : t.probeStart h = stP h 0 := by
  unfold SetTable.probeStart stP
  rw [hm]
  have : SetTable.bits h % (7 + 1) < 8 := Nat.mod_lt _ (by decide)
  have e : SetTable.runEnd 7 (SetTable.bits h % (7 + 1)) = SetTable.bits h % (7 + 1) := by
    unfold SetTable.runEnd
    rw [if_neg (by omega)]
  dsimp only
  rw [e]
  simp [seqJ]
theorem advance_at {t : SetTable} (hm : t.mask = 7) (h : Int) (k : Nat) : t.advance (stP h k) = stP h (k + 1) := by
  unfold SetTable.advance stP
  rw [hm]
  dsimp only
  rw [if_neg (by omega)]
  have e0 : SetTable.bits h / 32 ^ k / 32 = SetTable.bits h / 32 ^ (k + 1) := by rw [Nat.div_div_eq_div_mul, Nat.pow_succ]
  have e1 : SetTable.leap 7 (seqJ h k) (SetTable.bits h / 32 ^ k) = (seqJ h (k + 1), SetTable.bits h / 32 ^ (k + 1)) := by
    unfold SetTable.leap
    rw [e0]
    rfl
  rw [e1]
  dsimp only
  have : seqJ h (k + 1) < 8 := seqJ_lt h (k + 1)
  have e : SetTable.runEnd 7 (seqJ h (k + 1)) = seqJ h (k + 1) := by
    unfold SetTable.runEnd
    rw [if_neg (by omega)]
  rw [e, Nat.sub_self]

abbrev HR (W : Wd) (r : Row) : Int := tupleKeyHash (SK W) [r.1, r.2]
abbrev Occ := Nat → Option (Row × Addr)
def entR (W : Wd) (x : Row × Addr) : Int × Value := (HR W x.1, .ref x.2)
/-- the table's slots, and what lies in them -/
structure Tab (W : Wd) (t : SetTable) (es : Array (Int × Value)) (occ : Occ) : Prop where
  mask : t.mask = 7
  dum : t.dummies = #[]
  place : t.place = placeF fun j => (occ j).isSome
  ents : es.toList = (List.range 8).filterMap fun j => (occ j).map (entR W)

def rank (occ : Occ) (j : Nat) : Nat := ((List.range j).filter fun i => (occ i).isSome).length
theorem range_split {j : Nat} (hj : j < 8) : ∃ R, List.range 8 = List.range j ++ j :: R ∧ ∀ x ∈ R, j < x ∧ x < 8 := by
  match j, hj with
  | 0, _ => exact ⟨[1, 2, 3, 4, 5, 6, 7], rfl, by decide⟩
  | 1, _ => exact ⟨[2, 3, 4, 5, 6, 7], rfl, by decide⟩
  | 2, _ => exact ⟨[3, 4, 5, 6, 7], rfl, by decide⟩
  | 3, _ => exact ⟨[4, 5, 6, 7], rfl, by decide⟩
  | 4, _ => exact ⟨[5, 6, 7], rfl, by decide⟩
  | 5, _ => exact ⟨[6, 7], rfl, by decide⟩
  | 6, _ => exact ⟨[7], rfl, by decide⟩
  | 7, _ => exact ⟨[], rfl, by decide⟩
theorem len_filterMap {α β γ : Type} (f : α → Option β) (g : β → γ) : ∀ l : List α, (l.filterMap fun x => (f x).map g).length = (l.filter fun x => (f x).isSome).length
  | [] => rfl
  | x :: l => by
    have := len_filterMap f g l
    rw [List.filterMap_cons, List.filter_cons]
    cases h : f x with
    | none => simpa using this
    | some b => simpa using this
section
variable {W : Wd} {t : SetTable} {es : Array (Int × Value)} {occ : Occ}
theorem Tab.slot (T : Tab W t es occ) {j : Nat} (hj : j < 8) : t.slot j = if (occ j).isSome then .live (rank occ j) else .empty := by
  unfold SetTable.slot
  dsimp only
  rw [T.place, slot_at _ hj, below_at _ hj, T.dum]
  have : SetTable.has #[] j = false := rfl
  rw [this]
  rfl
theorem Tab.get (T : Tab W t es occ) {j : Nat} (hj : j < 8) {x : Row × Addr} (h : occ j = some x) : es[rank occ j]? = some (entR W x) := by
  obtain ⟨R, hR, _⟩ := range_split hj
  have e := T.ents
  rw [hR, List.filterMap_append, List.filterMap_cons, h] at e
  have e2 := len_filterMap occ (entR W) (List.range j)
  rw [← Array.getElem?_toList, e, List.getElem?_append_right (by rw [e2]; exact Nat.le_refl _), e2]
  simp [rank]
theorem Tab.size (T : Tab W t es occ) : es.size = ((List.range 8).filter fun i => (occ i).isSome).length := by
  rw [← Array.length_toList, T.ents, len_filterMap]
theorem Tab.fits (T : Tab W t es occ) (h7 : es.size ≤ 7) : t.fits es.size = true := by
  have e : t.place.size = es.size := by rw [T.place, T.size]; simp [placeF]
  have e2 : t.dummies.size = 0 := by rw [T.dum]; rfl
  unfold SetTable.fits SetTable.fill
  rw [e, e2, T.mask]
  simp [h7]

def hashOk (W : Wd) (occ : Occ) (hashAt : Nat → Int) : Prop := ∀ j x, j < 8 → occ j = some x → hashAt (rank occ j) = HR W x.1
/-- one look of a probe -/
theorem go_step (T : Tab W t es occ) {hashAt : Nat → Int} (hA : hashOk W occ hashAt) (h : Int) (fuel k : Nat) : SetTable.probe.go t hashAt h (fuel + 1) (stP h k) = (match occ (seqJ h k) with
    | none => some (.empty (seqJ h k) none)
    | some x => if (HR W x.1 == h) = true then some (.candidate (seqJ h k) (rank occ (seqJ h k)) (stP h (k + 1))) else SetTable.probe.go t hashAt h fuel (stP h (k + 1))) := by
  have hs := T.slot (seqJ_lt h k)
  rw [SetTable.probe.go]
  rw [show (stP h k).j = seqJ h k from rfl, hs]
  cases ho : occ (seqJ h k) with
  | none => rfl
  | some x =>
    simp only [Option.isSome_some, if_true]
    rw [hA _ x (seqJ_lt h k) ho, advance_at T.mask]

/-- a probe's run -/
theorem go_run (T : Tab W t es occ) {hashAt : Nat → Int} (hA : hashOk W occ hashAt) (h : Int) : ∀ (d k gf : Nat), d < gf → (∀ m, k ≤ m → m < k + d → (occ (seqJ h m)).isSome = true) → occ (seqJ h (k + d)) = none →
    (SetTable.probe.go t hashAt h gf (stP h k) = some (.empty (seqJ h (k + d)) none) ∧ ∀ m x, k ≤ m → m < k + d → occ (seqJ h m) = some x → HR W x.1 ≠ h) ∨
    ∃ k' x, k ≤ k' ∧ k' < k + d ∧ occ (seqJ h k') = some x ∧ HR W x.1 = h ∧ SetTable.probe.go t hashAt h gf (stP h k) = some (.candidate (seqJ h k') (rank occ (seqJ h k')) (stP h (k' + 1))) ∧ ∀ m x, k ≤ m → m < k' → occ (seqJ h m) = some x → HR W x.1 ≠ h
  | 0, k, gf + 1, _, _, he => by
    left
    rw [Nat.add_zero] at he
    rw [go_step T hA, he]
    exact ⟨rfl, fun m x h1 h2 => by omega⟩
  | d + 1, k, gf + 1, hd, hl, he => by
    obtain ⟨x, hx⟩ := Option.isSome_iff_exists.mp (hl k (Nat.le_refl _) (by omega))
    rw [go_step T hA, hx]
    dsimp only
    by_cases hh : (HR W x.1 == h) = true
    · right
      rw [if_pos hh]
      exact ⟨k, x, Nat.le_refl _, by omega, hx, eq_of_beq hh, rfl, fun m x h1 h2 => by omega⟩
    · rw [if_neg hh]
      have hne : HR W x.1 ≠ h := fun e => hh (by rw [e]; exact beq_self_eq_true h)
      have e1 : k + 1 + d = k + (d + 1) := by omega
      rcases go_run T hA h d (k + 1) gf (by omega) (fun m h1 h2 => hl m (by omega) (by omega)) (by rw [e1]; exact he) with ⟨h1, h2⟩ | ⟨k', y, h1, h2, h3, h4, h5, h6⟩
      · left
        rw [e1] at h1
        refine ⟨h1, fun m y hm1 hm2 hy => ?_⟩
        by_cases hmk : m = k
        · subst hmk; rw [hx] at hy; cases hy; exact hne
        · exact h2 m y (by omega) (by omega) hy
      · right
        refine ⟨k', y, by omega, by omega, h3, h4, h5, fun m z hm1 hm2 hz => ?_⟩
        by_cases hmk : m = k
        · subst hmk; rw [hx] at hz; cases hz; exact hne
        · exact h6 m z (by omega) hm2 hz
  | _, _, 0, hd, _, _ => by omega

theorem least (p : Nat → Bool) : ∀ n, p n = true → ∃ N, N ≤ n ∧ p N = true ∧ ∀ m, m < N → p m = false := by
  intro n
  induction n using Nat.strongRecOn with
  | ind n ih =>
    intro h
    by_cases hc : ∃ m, m < n ∧ p m = true
    · obtain ⟨m, hm, hp⟩ := hc
      obtain ⟨N, h1, h2, h3⟩ := ih m hm hp
      exact ⟨N, by omega, h2, h3⟩
    · refine ⟨n, Nat.le_refl _, h, fun m hm => ?_⟩
      cases e : p m with
      | false => rfl
      | true => exact absurd ⟨m, hm, e⟩ hc
/-- the first free slot of a text's way -/
theorem first_free (occ : Occ) (h : Int) {j : Nat} (hj : j < 8) (hf : occ j = none) : ∃ N, N < 21 ∧ occ (seqJ h N) = none ∧ ∀ m, m < N → (occ (seqJ h m)).isSome = true := by
  obtain ⟨k, hk, e⟩ := seqJ_all h hj
  obtain ⟨N, h1, h2, h3⟩ := least (fun k => (occ (seqJ h k)).isNone) k (by rw [e, hf]; rfl)
  refine ⟨N, by omega, by simpa using h2, fun m hm => ?_⟩
  have := h3 m hm
  cases hc : occ (seqJ h m) with
  | none => rw [hc] at this; cases this
  | some x => rfl
end
end
section
open PySem PySem.W PyProof.Rows
abbrev setObj (es : Array (Int × Value)) (ep : Nat) (t : SetTable) : Obj := { cls := .type "set", dict := none, data := .set es ep t, slots := #[] }
abbrev TupAt (W : Wd) (h : Heap) (r : Row) (b : Addr) : Prop := IsTupleKey (SK W) h [r.1, r.2] b
def KeysAt (W : Wd) (h : Heap) (occ : Occ) : Prop := ∀ j x, j < 8 → occ j = some x → TupAt W h x.1 x.2

section
variable {W : Wd} {A : Around} {E : Value → Shared → Prop} {s : Shared}

theorem wp_noClass {r : Row} {b : Addr} {Q : Bool → Shared → Prop} (hb : TupAt W s.heap r b) (h : Q false s) : wpAny (Mo W) A (ofAClassStatement 8 (.ref b)) Q E s := by
  have hT := hb.typeIs
  obtain ⟨o, items, n, ho, _, hd, hi⟩ := hb
  unfold ofAClassStatement
  refine wpAny_bind (wpAny_typeOf hT ?_)
  dsimp only
  refine wpAny_bind (wpAny_pure ?_)
  simp only [beq_self_eq_true, if_true, Bool.not_true, Bool.false_eq_true, if_false]
  refine wpAny_bind (wpAny_seqItems ho hd ?_)
  refine wpAny_bind ?_
  rw [← Array.forIn_toList]
  have hst : ∀ v ∈ items.toList, ∃ x t, v = Value.str x t := by
    generalize items.toList = l at hi
    cases hi with
    | cons h1 hs =>
    cases hs with
    | cons h2 hs =>
      cases hs
      obtain ⟨t1, rfl⟩ := Value.isStrOf_shape h1
      obtain ⟨t2, rfl⟩ := Value.isStrOf_shape h2
      intro v hv
      simp only [List.mem_cons, List.mem_nil_iff, or_false] at hv
      rcases hv with rfl | rfl <;> exact ⟨_, _, rfl⟩
  refine wpAny_forIn_list _ (fun rest r s' => r.1 = none ∧ s' = s ∧ ∀ v ∈ rest, ∃ x t, v = Value.str x t) _ ?_ ?_ _ _ ⟨rfl, rfl, hst⟩
  · rintro v rest r s' ⟨hr, rfl, hall⟩
    obtain ⟨x, t, rfl⟩ := hall v List.mem_cons_self
    unfold ofAClassStatement
    refine wpAny_bind (wpAny_pure ?_)
    rw [if_neg (by decide)]
    exact wpAny_pure ⟨rfl, rfl, fun u hu' => hall u (List.mem_cons_of_mem _ hu')⟩
  · rintro ⟨r1, r2⟩ s' ⟨hr, rfl, _⟩
    simp only at hr
    subst hr
    exact wpAny_pure h

theorem wp_notSeen {r : Row} {b : Addr} {stored : List Value} {Q : Bool → Shared → Prop} (hb : TupAt W s.heap r b) (hst : ∀ v ∈ stored, ∃ r' b', v = .ref b' ∧ TupAt W s.heap r' b') (h : Q false s) : wpAny (Mo W) A (searchCouldBeSeen (.ref b) stored) Q E s := by
  unfold searchCouldBeSeen
  refine wpAny_bind ?_
  refine wpAny_forIn_list _ (fun rest r s' => r.1 = none ∧ s' = s ∧ ∀ v ∈ rest, ∃ r' b', v = .ref b' ∧ TupAt W s.heap r' b') _ ?_ ?_ _ _ ⟨rfl, rfl, hst⟩
  · rintro v rest r0 s' ⟨hr, rfl, hall⟩
    obtain ⟨r', b', rfl, hb'⟩ := hall v List.mem_cons_self
    have rest' : ∀ u ∈ rest, ∃ r' b', u = .ref b' ∧ TupAt W s'.heap r' b' := fun u hu' => hall u (List.mem_cons_of_mem _ hu')
    dsimp only
    refine wpAny_ite_split (fun _ => wpAny_pure ⟨rfl, rfl, rest'⟩) (fun _ => ?_)
    refine wpAny_bind (wpAny_eqIsQuiet_tuple hb ?_)
    simp only [Bool.not_true, Bool.false_eq_true, if_false]
    refine wpAny_bind (wpAny_eqIsQuiet_tuple hb' ?_)
    simp only [Bool.not_true, Bool.false_eq_true, if_false]
    refine wpAny_bind (wp_noClass hb ?_)
    rw [if_neg (by decide)]
    refine wpAny_bind (wp_noClass hb' ?_)
    rw [if_neg (by decide)]
    exact wpAny_pure ⟨rfl, rfl, rest'⟩
  · rintro ⟨r1, r2⟩ s' ⟨hr, rfl, _⟩
    simp only at hr
    subst hr
    exact wpAny_pure h
end
end
section
open PySem PySem.W PyProof.Rows
/-! a new element at a free slot -/
def fSet (f : Nat → Bool) (j : Nat) : Nat → Bool := fun i => if i = j then true else f i
theorem put_all : ∀ b0 b1 b2 b3 b4 b5 b6 b7 : Bool, ∀ j ∈ List.range 8, fOf b0 b1 b2 b3 b4 b5 b6 b7 j = false →
    (SetTable.insertAt (placeF (fOf b0 b1 b2 b3 b4 b5 b6 b7)) (SetTable.below (placeF (fOf b0 b1 b2 b3 b4 b5 b6 b7)) j) j).toList = (List.range 8).filter (fSet (fOf b0 b1 b2 b3 b4 b5 b6 b7) j) := by
  decide +kernel
theorem put_at (f : Nat → Bool) {j : Nat} (hj : j < 8) (hf : f j = false) : SetTable.insertAt (placeF f) (SetTable.below (placeF f) j) j = placeF (fSet f j) := by
  rw [placeF_of f]
  have h := put_all (f 0) (f 1) (f 2) (f 3) (f 4) (f 5) (f 6) (f 7) j (List.mem_range.mpr hj) (by rw [fOf_at f hj]; exact hf)
  apply Array.toList_inj.mp
  rw [h]
  show _ = (List.range 8).filter (fSet f j)
  refine List.filter_congr fun x hx => ?_
  have hx := List.mem_range.mp hx
  unfold fSet
  split
  · rfl
  · exact fOf_at f hx
theorem insertAt_toList {α : Type} (xs : Array α) (p : Nat) (x : α) : (SetTable.insertAt xs p x).toList = xs.toList.take p ++ x :: xs.toList.drop p := by
  unfold SetTable.insertAt
  simp [Array.toList_extract, List.extract_eq_take_drop]
  exact List.take_of_length_le (by rw [List.length_drop, Array.length_toList]; exact Nat.le_refl _)
def oSet (occ : Occ) (j : Nat) (x : Row × Addr) : Occ := fun i => if i = j then some x else occ i
theorem filterMap_take {α β : Type} (f : α → Option β) (l r : List α) (k : Nat) (h : k = (l.filterMap f).length) : ((l ++ r).filterMap f).take k = l.filterMap f ∧ ((l ++ r).filterMap f).drop k = r.filterMap f := by
  subst h
  rw [List.filterMap_append]
  simp
theorem filterMap_oSet {W : Wd} (occ : Occ) (j : Nat) (x : Row × Addr) (l : List Nat) (h : ∀ i ∈ l, i ≠ j) : (l.filterMap fun i => (oSet occ j x i).map (entR W)) = l.filterMap fun i => (occ i).map (entR W) := by
  induction l with
  | nil => rfl
  | cons i l ih =>
    have h1 : oSet occ j x i = occ i := by unfold oSet; rw [if_neg (h i List.mem_cons_self)]
    rw [List.filterMap_cons, List.filterMap_cons, h1, ih fun k hk => h k (List.mem_cons_of_mem _ hk)]
section
variable {W : Wd} {t : SetTable} {es : Array (Int × Value)} {occ : Occ}
theorem Tab.put (T : Tab W t es occ) {j : Nat} (hj : j < 8) (hf : occ j = none) (x : Row × Addr) (pl : Bool) (led : Bool) : (t.put j).2 = rank occ j ∧ Tab W { (t.put j).1 with plain := pl } (SetTable.insertAt es (rank occ j) (entR W x)) (oSet occ j x) := by
  have hb : SetTable.below t.place j = rank occ j := by rw [T.place, below_at _ hj]; rfl
  have hd : SetTable.has t.dummies j = false := by rw [T.dum]; rfl
  obtain ⟨R, hR, hRj⟩ := range_split hj
  refine ⟨hb, ⟨T.mask, ?_, ?_, ?_⟩⟩
  · show (if SetTable.has t.dummies j then _ else t.dummies) = _
    rw [hd]; exact T.dum
  · show SetTable.insertAt t.place (SetTable.below t.place j) j = _
    rw [T.place, put_at _ hj (by rw [hf]; rfl)]
    congr 1
    funext i
    unfold fSet oSet
    split <;> rfl
  · rw [insertAt_toList, T.ents, hR]
    have e := filterMap_take (fun i => (occ i).map (entR W)) (List.range j) (j :: R) (rank occ j) (by rw [len_filterMap]; rfl)
    rw [e.1, e.2, List.filterMap_append, filterMap_oSet occ j x (List.range j) (fun i hi => by have := List.mem_range.mp hi; omega)]
    rw [List.filterMap_cons, List.filterMap_cons, hf]
    have e2 : oSet occ j x j = some x := by unfold oSet; rw [if_pos rfl]
    rw [e2, filterMap_oSet occ j x R (fun i hi => by have := (hRj i hi).1; omega)]
    rfl
end

/-! a table laid anew with 32 slots -/
theorem cyc32_all : ∀ x ∈ List.range 32, ∀ j ∈ List.range 32, ∃ k ∈ List.range 32, Nat.rec (motive := fun _ => Nat) x (fun _ y => (y * 5 + 1) % 32) k = j := by decide +kernel
def walkL : Nat → Nat → Nat → Nat × Nat
  | 0, i, p => (i, p)
  | k + 1, i, p => walkL k (SetTable.leap 31 i p).1 (SetTable.leap 31 i p).2
theorem walkL_add : ∀ a b i p, walkL (a + b) i p = walkL b (walkL a i p).1 (walkL a i p).2
  | 0, b, i, p => by rw [Nat.zero_add]; rfl
  | a + 1, b, i, p => by
    rw [show a + 1 + b = (a + b) + 1 by omega]
    show walkL (a + b) _ _ = walkL b (walkL a _ _).1 (walkL a _ _).2
    exact walkL_add a b _ _
theorem walkL_lt : ∀ k i p, i < 32 → (walkL k i p).1 < 32
  | 0, i, p, h => h
  | k + 1, i, p, h => walkL_lt k _ _ (Nat.mod_lt _ (by decide))
theorem walkL_p : ∀ k i p, (walkL k i p).2 = p / 32 ^ k
  | 0, i, p => by simp [walkL]
  | k + 1, i, p => by
    show (walkL k _ (p / 32)).2 = _
    rw [walkL_p k, Nat.div_div_eq_div_mul, Nat.pow_succ, Nat.mul_comm]
theorem walkL_0 : ∀ k i, (walkL k i 0).1 = Nat.rec (motive := fun _ => Nat) i (fun _ y => (y * 5 + 1) % 32) k
  | 0, i => rfl
  | k + 1, i => by
    rw [walkL_add k 1]
    have e : (walkL k i 0).2 = 0 := by rw [walkL_p]; simp
    rw [e]
    show (((walkL k i 0).1 * 5 + 1 + 0 / 32) % 32) = _
    rw [walkL_0 k]
theorem walkL_all (i : Nat) (h : Int) (hi : i < 32) {j : Nat} (hj : j < 32) : ∃ k, k < 46 ∧ (walkL k i (SetTable.bits h)).1 = j := by
  obtain ⟨k, hk, e⟩ := cyc32_all (walkL 13 i (SetTable.bits h)).1 (List.mem_range.mpr (walkL_lt _ _ _ hi)) j (List.mem_range.mpr hj)
  have := List.mem_range.mp hk
  refine ⟨13 + k, by omega, ?_⟩
  rw [walkL_add, walkL_p, bits_done h (Nat.le_refl 13), walkL_0]
  exact e
theorem free_ok (owner : Array (Option Nat)) (hs : owner.size = 32) : ∀ (fuel i p : Nat), i < 32 → (∃ k, k < fuel ∧ owner.getD (walkL k i p).1 (some 0) = none) → ∃ j, SetTable.layClean.free 31 owner fuel i p = some j ∧ j < 32 ∧ owner[j]? = some none
  | 0, i, p, hi, ⟨k, hk, _⟩ => by omega
  | fuel + 1, i, p, hi, ⟨k, hk, e⟩ => by
    unfold SetTable.layClean.free
    cases hf : (List.range (SetTable.runEnd 31 i + 1 - i)).find? fun k => (owner.getD (i + k) (some 0)).isNone with
    | some m =>
      dsimp only
      have h1 := List.find?_some hf
      have h2 := List.mem_range.mp (List.mem_of_find?_eq_some hf)
      have h3 : i + m < 32 := by
        unfold SetTable.runEnd at h2
        split at h2 <;> omega
      refine ⟨_, rfl, h3, ?_⟩
      have h4 : i + m < owner.size := by omega
      simp only [Array.getD, h4, dif_pos, Option.isNone_iff_eq_none] at h1
      rw [Array.getElem?_eq_getElem h4, ← h1]
      rfl
    | none =>
      dsimp only
      cases k with
      | zero =>
        exfalso
        have := List.find?_eq_none.mp hf 0 (List.mem_range.mpr (by unfold SetTable.runEnd; split <;> omega))
        apply this
        show (owner.getD (i + 0) (some 0)).isNone = true
        rw [Nat.add_zero, show owner.getD i (some 0) = none from e]; rfl
      | succ k =>
        exact free_ok owner hs fuel _ _ (Nat.mod_lt _ (by decide)) ⟨k, by omega, e⟩

theorem set_perm {α : Type} : ∀ (l : List (Option α)) (j : Nat) (x : α), l[j]? = some none → ((l.set j (some x)).filterMap id).Perm (x :: l.filterMap id)
  | [], j, x, h => by simp at h
  | a :: l, 0, x, h => by
    simp at h; subst h
    simp
  | a :: l, j + 1, x, h => by
    have ih := set_perm l j x (by simpa using h)
    rw [List.set_cons_succ, List.filterMap_cons, List.filterMap_cons]
    cases a with
    | none => exact ih
    | some b => exact (ih.cons b).trans (.swap x b _)
theorem some_free : ∀ (l : List (Option Nat)), (l.filterMap id).length < l.length → ∃ j, j < l.length ∧ l[j]? = some none
  | [], h => by simp at h
  | a :: l, h => by
    cases a with
    | none => exact ⟨0, by simp, rfl⟩
    | some b =>
      obtain ⟨j, h1, h2⟩ := some_free l (by simpa using h)
      exact ⟨j + 1, by simpa using h1, by simpa using h2⟩
def layStep (acc : Option (Array (Option Nat) × Nat)) (h : Int) : Option (Array (Option Nat) × Nat) := do
  let (owner, k) ← acc
  let j ← SetTable.layClean.free 31 owner (SetTable.turns 31) (SetTable.bits h % (31 + 1)) (SetTable.bits h)
  pure (owner.setIfInBounds j (some k), k + 1)
theorem lay_go : ∀ (hs : List Int) (owner : Array (Option Nat)) (k : Nat), owner.size = 32 → (owner.toList.filterMap id).Perm (List.range k) → k + hs.length ≤ 20 →
    ∃ owner', hs.foldl layStep (some (owner, k)) = some (owner', k + hs.length) ∧ owner'.size = 32 ∧ (owner'.toList.filterMap id).Perm (List.range (k + hs.length))
  | [], owner, k, h1, h2, _ => ⟨owner, rfl, h1, h2⟩
  | h :: hs, owner, k, h1, h2, h3 => by
    have hlen := h2.length_eq
    rw [List.length_range] at hlen
    rw [List.length_cons] at h3
    obtain ⟨j0, hj1, hj2⟩ := some_free owner.toList (by rw [hlen, Array.length_toList, h1]; omega)
    rw [Array.length_toList, h1] at hj1
    rw [Array.getElem?_toList] at hj2
    have hi : SetTable.bits h % (31 + 1) < 32 := Nat.mod_lt _ (by decide)
    obtain ⟨kk, hk1, hk2⟩ := walkL_all (SetTable.bits h % (31 + 1)) h hi hj1
    obtain ⟨j, e, hj, ho⟩ := free_ok owner h1 46 _ (SetTable.bits h) hi ⟨kk, hk1, by
      rw [hk2]
      have : j0 < owner.size := by omega
      simp only [Array.getD, this, dif_pos]
      have := hj2
      rw [Array.getElem?_eq_getElem ‹_›] at this
      exact Option.some.inj this⟩
    have es : layStep (some (owner, k)) h = some (owner.setIfInBounds j (some k), k + 1) := by
      show ((SetTable.layClean.free 31 owner (SetTable.turns 31) (SetTable.bits h % (31 + 1)) (SetTable.bits h)).bind fun j => some (owner.setIfInBounds j (some k), k + 1)) = _
      rw [show SetTable.turns 31 = 46 from rfl, e]
      rfl
    have hp : ((owner.setIfInBounds j (some k)).toList.filterMap id).Perm (List.range (k + 1)) := by
      rw [Array.toList_setIfInBounds, List.range_succ]
      refine (set_perm owner.toList j k (by rw [Array.getElem?_toList]; exact ho)).trans ?_
      exact (h2.cons k).trans (List.perm_append_singleton k (List.range k)).symm
    obtain ⟨owner', a1, a2, a3⟩ := lay_go hs (owner.setIfInBounds j (some k)) (k + 1) (by rw [Array.size_setIfInBounds, h1]) hp (by omega)
    refine ⟨owner', ?_, a2, ?_⟩
    · rw [List.foldl_cons, es, a1, List.length_cons, show k + 1 + hs.length = k + (hs.length + 1) by omega]
    · rw [List.length_cons, show k + (hs.length + 1) = k + 1 + hs.length by omega]; exact a3
theorem lay_ok (hs : Array Int) (hl : hs.size ≤ 20) : ∃ owner, SetTable.layClean 31 hs = some owner ∧ owner.size = 32 ∧ (owner.toList.filterMap id).Perm (List.range hs.size) := by
  obtain ⟨owner, a1, a2, a3⟩ := lay_go hs.toList (Array.replicate 32 none) 0 (by simp) (by simp) (by simpa using hl)
  refine ⟨owner, ?_, a2, by simpa using a3⟩
  unfold SetTable.layClean
  rw [← Array.foldl_toList]
  show Option.map _ (hs.toList.foldl layStep (some (Array.replicate 32 none, 0))) = _
  rw [a1]
  rfl
theorem live_fst (owner : Array (Option Nat)) : ∀ l : List Nat, ((l.filterMap fun j => (owner.getD j none).map (j, ·)).map (·.2)) = l.filterMap fun j => owner.getD j none
  | [] => rfl
  | j :: l => by
    rw [List.filterMap_cons, List.filterMap_cons]
    cases owner.getD j none with
    | none => exact live_fst owner l
    | some b => simp only [Option.map_some, List.map_cons]; rw [live_fst owner l]
theorem owner_list (owner : Array (Option Nat)) (hs : owner.size = 32) : ((List.range 32).filterMap fun j => owner.getD j none) = owner.toList.filterMap id := by
  have e : owner.toList = (List.range 32).map fun j => owner.getD j none := by
    apply List.ext_getElem
    · simp [hs]
    · intro i h1 h2
      have : i < owner.size := by simpa using h1
      simp [Array.getD, this]
  rw [e, List.filterMap_map]
  rfl
theorem relaid_ok (t : SetTable) (hs : Array Int) (hl : hs.size ≤ 20) (wanted : Nat) (hw : SetTable.sizeAbove wanted = 32) : ∃ t' order, t.relaid hs wanted = some (t', order) ∧ order.toList.Perm (List.range hs.size) ∧ t'.fits hs.size = true ∧ t'.plain = t.plain ∧ t'.led = t.led := by
  obtain ⟨owner, a1, a2, a3⟩ := lay_ok hs hl
  unfold SetTable.relaid SetTable.laid
  rw [hw]
  show ∃ t' order, (do
    let owner ← SetTable.layClean 31 hs
    let live := (List.range (31 + 1)).filterMap fun j => (owner.getD j none).map (j, ·)
    pure (_, (live.map (·.2)).toArray) : Option (SetTable × Array Nat)) = some (t', order) ∧ _
  rw [a1]
  have hp : (((List.range 32).filterMap fun j => (owner.getD j none).map (j, ·)).map (·.2)).Perm (List.range hs.size) := by
    rw [live_fst, owner_list owner a2]; exact a3
  refine ⟨_, _, rfl, ?_, ?_, rfl, rfl⟩
  · exact hp
  · have hl2 := hp.length_eq
    rw [List.length_map, List.length_range] at hl2
    unfold SetTable.fits SetTable.fill
    show ((_ : Array Nat).size == hs.size && decide (_ + 0 ≤ 31)) = true
    have : (((List.range (31 + 1)).filterMap fun j => (owner.getD j none).map (j, ·)).map (·.1)).toArray.size = hs.size := by
      rw [List.size_toArray, List.length_map]; exact hl2
    rw [this]
    simp
    omega
theorem reorder_perm {α : Type} (es : Array α) (order : Array Nat) (hp : order.toList.Perm (List.range es.size)) : (order.filterMap (es[·]?)).toList.Perm es.toList := by
  rw [Array.toList_filterMap]
  refine (hp.filterMap _).trans ?_
  have e : (List.range es.size).filterMap (fun x => es[x]?) = es.toList := by
    have : ∀ l : List α, (List.range l.length).filterMap (fun x => l[x]?) = l := by
      intro l
      induction l with
      | nil => rfl
      | cons a l ih =>
        rw [List.length_cons, List.range_succ_eq_map, List.filterMap_cons, List.filterMap_map]
        show a :: List.filterMap (fun x => (a :: l)[x + 1]?) (List.range l.length) = _
        simp only [List.getElem?_cons_succ]
        rw [ih]
    have h := this es.toList
    rw [Array.length_toList] at h
    simpa using h
  rw [e]
end
section
open PySem PySem.W PyProof.Rows
/-- each element is found on its own way -/
structure Ways (W : Wd) (occ : Occ) : Prop where
  way : ∀ j x, j < 8 → occ j = some x → ∃ m, seqJ (HR W x.1) m = j ∧ ∀ m', m' < m → (occ (seqJ (HR W x.1) m')).isSome = true
  one : ∀ i j x y, i < 8 → j < 8 → occ i = some x → occ j = some y → x.1 = y.1 → i = j

theorem decide_rows {a b : Row} : decide ([a.1, a.2] = [b.1, b.2]) = decide (a = b) := by
  obtain ⟨a1, a2⟩ := a
  obtain ⟨b1, b2⟩ := b
  simp
section
variable {W : Wd} {A : Around} {E : Value → Shared → Prop} {s : Shared} {t : SetTable} {es : Array (Int × Value)} {ep : Nat} {occ : Occ} {a b : Addr} {r : Row}

theorem entR_eq (x : Row × Addr) : entR W x = (HR W x.1, .ref x.2) := rfl
theorem wp_seenIf {α : Type} {c : Prop} [Decidable c] {m : Sem Bool} {bad rest : Sem α} {Q : α → Shared → Prop} (hm : wpAny (Mo W) A m (fun b s' => b = false ∧ s' = s) E s) (h : wpAny (Mo W) A rest Q E s) :
    wpAny (Mo W) A (if c then m >>= fun b => if b = true then bad else rest else rest) Q E s := by
  split
  · refine wpAny_bind (wpAny_mono hm (fun b s' q => ?_) fun _ _ x => x)
    obtain ⟨rfl, rfl⟩ := q
    rw [if_neg (by decide)]
    exact h
  · exact h
theorem Tab.stored (T : Tab W t es occ) (KA : KeysAt W s.heap occ) {h : Int} : ∀ v ∈ (es.filter (·.1 == h)).toList.map (·.2), ∃ r' b', v = .ref b' ∧ TupAt W s.heap r' b' := by
  intro v hv
  obtain ⟨e, he, rfl⟩ := List.mem_map.mp hv
  rw [Array.mem_toList_iff, Array.mem_filter, ← Array.mem_toList_iff] at he
  have he := he.1
  rw [T.ents] at he
  obtain ⟨j, hj, hje⟩ := List.mem_filterMap.mp he
  cases ho : occ j with
  | none => rw [ho] at hje; cases hje
  | some y =>
    rw [ho] at hje; cases hje
    exact ⟨y.1, y.2, rfl, KA j y (List.mem_range.mp hj) ho⟩
theorem same_self : t.sameMemory t.moves t.mask = some true := by unfold SetTable.sameMemory; rw [if_pos (beq_self_eq_true _)]
theorem probe_eq (hm : t.mask = 7) (f : Nat → Int) (h : Int) (p : SetTable.Probe) : t.probe f h p = SetTable.probe.go t f h 220 p := by
  unfold SetTable.probe
  rw [hm, show 10 * SetTable.turns 7 = 220 from by decide]

theorem probe_congr {f g : Nat → Int} {h : Int} {p : SetTable.Probe} {m : Option SetTable.Met} (e : t.probe f h p = m) (q : ∀ i, g i = f i) : t.probe g h p = m := by rw [funext q]; exact e
theorem wp_search_step (hu : A.units < cLine) (ho : s.heap.get? a = some (setObj es ep t)) (T : Tab W t es occ) (KA : KeysAt W s.heap occ) (h7 : es.size ≤ 7) (hb : TupAt W s.heap r b) {N : Nat} (hN : N < 21)
    (hf : occ (seqJ (HR W r) N) = none) (hl : ∀ m, m < N → (occ (seqJ (HR W r) m)).isSome = true) {adding : Bool} {Q : SetFound → Shared → Prop} (fuel k : Nat) (stand : Option SetTable.Probe) (hst : stand.getD (t.probeStart (HR W r)) = stP (HR W r) k) (hk : k ≤ N)
    (h1 : (∀ m x, k ≤ m → m < N → occ (seqJ (HR W r) m) = some x → x.1 ≠ r) → Q (.free (seqJ (HR W r) N) false) s)
    (h2 : ∀ i, (adding = false → i.isSome = true) → (∃ m x, k ≤ m ∧ m < N ∧ occ (seqJ (HR W r) m) = some x ∧ x.1 = r) → Q (.there i) s)
    (again : ∀ k', k ≤ k' → k' < N → (∀ m x, k ≤ m → m < k' + 1 → occ (seqJ (HR W r) m) = some x → x.1 ≠ r) → wpAny (Mo W) A (setSearchFrom a (.ref b) (HR W r) adding fuel (some (stP (HR W r) (k' + 1)))) Q E s) :
    wpAny (Mo W) A (setSearchFrom a (.ref b) (HR W r) adding (fuel + 1) stand) Q E s := by
  have hA : hashOk W occ (fun i => (es[i]?.map (·.1)).getD 0) := fun j x hj hx => by
    show (es[rank occ j]?.map (·.1)).getD 0 = _
    rw [T.get hj hx, entR_eq, Option.map_some, Option.getD_some]
  have go := go_run T hA (HR W r) (N - k) k 220 (by omega) (fun m _ hm => hl m (by omega)) (by rw [show k + (N - k) = N by omega]; exact hf)
  rw [show k + (N - k) = N by omega, ← probe_eq T.mask] at go
  unfold setSearchFrom
  refine wpAny_bind (wpAny_setState_of ho rfl (T.fits h7) ?_)
  dsimp only
  have hg : t.gaveWay = false := by unfold SetTable.gaveWay; rw [T.mask]; rfl
  rw [hg]
  simp only [Bool.false_eq_true, if_false]
  rw [hst]
  rcases go with ⟨g1, g2⟩ | ⟨k', x, g1, g2, g3, g4, g5, g6⟩
  · split
    case h_2 hP => exact (hP _ (probe_congr g1 fun _ => rfl)).elim
    rename_i met hP
    cases Option.some.inj (hP.symm.trans (probe_congr g1 fun _ => rfl))
    dsimp only
    exact wpAny_pure (h1 fun m x hm1 hm2 hx e => g2 m x hm1 hm2 hx (by rw [e]))
  · split
    case h_2 hP => exact (hP _ (probe_congr g5 fun _ => rfl)).elim
    rename_i met hP
    cases Option.some.inj (hP.symm.trans (probe_congr g5 fun _ => rfl))
    dsimp only
    have hj := seqJ_lt (HR W r) k'
    have hx := KA _ x hj g3
    have hget := T.get hj g3
    refine wp_seenIf (wp_notSeen hb (T.stored KA) ⟨rfl, rfl⟩) ?_
    rw [hget]
    dsimp only [entR]
    refine wpAny_bind (wpAny_holding (wpAny_eqBool_tuple hu hx hb ?_))
    rw [decide_rows]
    refine wpAny_bind (wpAny_setState_of ho rfl (T.fits h7) ?_)
    dsimp only
    by_cases hxr : x.1 = r
    · rw [decide_eq_true hxr]
      cases adding with
      | true => exact wpAny_pure (h2 _ (fun q => nomatch q) ⟨k', x, g1, g2, g3, hxr⟩)
      | false =>
        simp only [Bool.false_and, Bool.false_eq_true, if_false]
        rw [same_self]
        dsimp only
        rw [if_pos rfl, T.slot hj, g3]
        simp only [Option.isSome_some, if_true]
        rw [hget]
        dsimp only [entR]
        refine wpAny_bind (wpAny_isSame_ref_self (wpAny_bind (wpAny_pure ?_)))
        exact wpAny_pure (h2 _ (fun _ => rfl) ⟨k', x, g1, g2, g3, hxr⟩)
    · rw [decide_eq_false hxr]
      rw [Bool.and_false]
      simp only [Bool.false_eq_true, if_false]
      rw [same_self]
      dsimp only
      rw [if_pos rfl, T.slot hj, g3]
      simp only [Option.isSome_some, if_true]
      rw [hget]
      dsimp only [entR]
      refine wpAny_bind (wpAny_isSame_ref_self (wpAny_bind (wpAny_pure ?_)))
      refine again k' g1 g2 fun m y hm1 hm2 hy => ?_
      by_cases hmk : m < k'
      · intro e; exact g6 m y hm1 hmk hy (by rw [e])
      · have hme : m = k' := by omega
        subst hme; rw [g3] at hy; cases hy; exact hxr

theorem wp_search (hu : A.units < cLine) (ho : s.heap.get? a = some (setObj es ep t)) (T : Tab W t es occ) (KA : KeysAt W s.heap occ) (h7 : es.size ≤ 7) (hb : TupAt W s.heap r b) {N : Nat} (hN : N < 21)
    (hf : occ (seqJ (HR W r) N) = none) (hl : ∀ m, m < N → (occ (seqJ (HR W r) m)).isSome = true) {adding : Bool} {Q : SetFound → Shared → Prop} (fuel : Nat) : ∀ (k : Nat) (stand : Option SetTable.Probe), stand.getD (t.probeStart (HR W r)) = stP (HR W r) k → k ≤ N → N - k < fuel →
    ((∀ m x, k ≤ m → m < N → occ (seqJ (HR W r) m) = some x → x.1 ≠ r) → Q (.free (seqJ (HR W r) N) false) s) →
    (∀ i, (adding = false → i.isSome = true) → (∃ m x, k ≤ m ∧ m < N ∧ occ (seqJ (HR W r) m) = some x ∧ x.1 = r) → Q (.there i) s) →
    wpAny (Mo W) A (setSearchFrom a (.ref b) (HR W r) adding fuel stand) Q E s := by
  induction fuel with
  | zero => intro k stand hst hk hfu h1 h2; omega
  | succ fuel ih =>
    intro k stand hst hk hfu h1 h2
    refine wp_search_step hu ho T KA h7 hb hN hf hl fuel k stand hst hk h1 h2 fun k' g1 g2 g6 => ?_
    refine ih (k' + 1) _ rfl (by omega) (by omega) (fun hno => h1 fun m y hm1 hm2 hy => ?_) (fun i hs hi => h2 i hs ?_)
    · by_cases hmk : m < k' + 1
      · exact g6 m y hm1 hmk hy
      · exact hno m y (by omega) hm2 hy
    · obtain ⟨m, y, q1, q2, q3, q4⟩ := hi
      exact ⟨m, y, by omega, q2, q3, q4⟩

/-- whether a pair is in the table -/
def InT (occ : Occ) (r : Row) : Prop := ∃ j x, j < 8 ∧ occ j = some x ∧ x.1 = r
theorem wp_search0 (hu : A.units < cLine) (ho : s.heap.get? a = some (setObj es ep t)) (T : Tab W t es occ) (KA : KeysAt W s.heap occ) (Wy : Ways W occ) (h7 : es.size ≤ 7) (hb : TupAt W s.heap r b)
    {adding : Bool} {Q : SetFound → Shared → Prop}
    (h1 : ∀ j, j < 8 → occ j = none → (∃ m, seqJ (HR W r) m = j ∧ ∀ m', m' < m → (occ (seqJ (HR W r) m')).isSome = true) → ¬ InT occ r → Q (.free j false) s)
    (h2 : ∀ i, (adding = false → i.isSome = true) → InT occ r → Q (.there i) s) : wpAny (Mo W) A (setSearch a (.ref b) (HR W r) adding) Q E s := by
  have hsz := T.size
  have hex : ∃ j, j < 8 ∧ occ j = none := by
    by_cases hc : ∃ j, j < 8 ∧ occ j = none
    · exact hc
    · exfalso
      have : (List.range 8).filter (fun i => (occ i).isSome) = List.range 8 := List.filter_eq_self.mpr fun i hi => by
        cases h : occ i with
        | none => exact absurd ⟨i, List.mem_range.mp hi, h⟩ hc
        | some x => rfl
      rw [this, List.length_range] at hsz
      omega
  obtain ⟨j0, hj0, hn0⟩ := hex
  obtain ⟨N, hN, hf, hl⟩ := first_free occ (HR W r) hj0 hn0
  unfold setSearch
  refine wp_search hu ho T KA h7 hb hN hf hl 100000 0 none (start_at T.mask _) (Nat.zero_le _) (by omega) (fun hno => h1 _ (seqJ_lt _ _) hf ⟨N, rfl, hl⟩ ?_) (fun i hs hi => h2 i hs ?_)
  · rintro ⟨j, x, hj, hx, e⟩
    obtain ⟨m, hm, hlm⟩ := Wy.way j x hj hx
    rw [e] at hm hlm
    by_cases hmN : m < N
    · exact hno m x (Nat.zero_le _) hmN (by rw [hm]; exact hx) e
    · by_cases hme : m = N
      · subst hme; rw [hm, hx] at hf; cases hf
      · have := hlm N (by omega); rw [hf] at this; cases this
  · obtain ⟨m, x, _, _, hx, e⟩ := hi
    exact ⟨_, x, seqJ_lt _ _, hx, e⟩

theorem Ways.put (Wy : Ways W occ) {j : Nat} (hj : j < 8) (hf : occ j = none) (hw : ∃ m, seqJ (HR W r) m = j ∧ ∀ m', m' < m → (occ (seqJ (HR W r) m')).isSome = true) (hn : ¬ InT occ r) : Ways W (oSet occ j (r, b)) := by
  have mono : ∀ i, (occ i).isSome = true → (oSet occ j (r, b) i).isSome = true := fun i h => by
    unfold oSet; split
    · rfl
    · exact h
  refine ⟨fun i x hi hx => ?_, fun i k x y hi hk hx hy e => ?_⟩
  · unfold oSet at hx
    split at hx
    · rename_i h
      cases hx
      obtain ⟨m, hm, hlm⟩ := hw
      exact ⟨m, hm.trans h.symm, fun m' hm' => mono _ (hlm m' hm')⟩
    · obtain ⟨m, hm, hlm⟩ := Wy.way i x hi hx
      exact ⟨m, hm, fun m' hm' => mono _ (hlm m' hm')⟩
  · unfold oSet at hx hy
    split at hx <;> split at hy
    · omega
    · cases hx; exact absurd ⟨k, y, hk, hy, e.symm⟩ hn
    · cases hy; exact absurd ⟨i, x, hi, hx, e⟩ hn
    · exact Wy.one i k x y hi hk hx hy e
end
end
section
open PySem PySem.W PyProof.Rows
/-- a tuple of two texts, to the letter -/
def TupR (h : Heap) (r : Row) (b : Addr) : Prop := ∃ t1 t2 n, h.get? b = some (tupObj [.str r.1 t1, .str r.2 t2] n)
theorem TupR.at {W : Wd} {h : Heap} {r : Row} {b : Addr} (x : TupR h r b) : TupAt W h r b := by
  obtain ⟨t1, t2, n, e⟩ := x
  exact ⟨_, _, n, e, rfl, rfl, .cons (strKind_is _ _ _ _) (.cons (strKind_is _ _ _ _) .nil)⟩
theorem TupR.mono {h h' : Heap} {r : Row} {b : Addr} (k : h.StaysIn h') (x : TupR h r b) : TupR h' r b := by
  obtain ⟨t1, t2, n, e⟩ := x
  exact ⟨t1, t2, n, k _ _ e⟩

/-- a set of pairs of texts -/
structure SetIs (W : Wd) (h : Heap) (D : List Row) (es : Array (Int × Value)) (t : SetTable) : Prop where
  ents : ∃ L : List (Row × Addr), es.toList = L.map (entR W) ∧ (L.map Prod.fst).Perm D ∧ ∀ x ∈ L, TupR h x.1 x.2
  nd : D.Nodup
  fits : t.fits es.size = true
  pl : t.plain = true → es.size = 0
  led : W.w.params.followText "set-order" = false → t.led = true
  small : D.length ≤ 4 → ∃ occ, Tab W t es occ ∧ KeysAt W h occ ∧ Ways W occ

theorem TupAt.mono {W : Wd} {h h' : Heap} {r : Row} {b : Addr} (k : h.StaysIn h') (x : TupAt W h r b) : TupAt W h' r b := by
  obtain ⟨o, items, n, ho, r⟩ := x
  exact ⟨o, items, n, k _ _ ho, r⟩
theorem TupAt.inj {W : Wd} {h : Heap} {r r' : Row} {b : Addr} (x : TupAt W h r b) (y : TupAt W h r' b) : r = r' := by
  have e := IsTupleKey.inj x y
  obtain ⟨a1, a2⟩ := r
  obtain ⟨b1, b2⟩ := r'
  simp at e
  exact Prod.ext e.1 e.2
section
variable {W : Wd} {A : Around} {E : Value → Shared → Prop} {s : Shared} {t : SetTable} {es : Array (Int × Value)} {ep : Nat} {occ : Occ} {a b : Addr} {r : Row} {D : List Row} {g : Heap}

theorem SetIs.mono {g' : Heap} (k : g.StaysIn g') (S : SetIs W g D es t) : SetIs W g' D es t := by
  obtain ⟨L, h1, h2, h3⟩ := S.ents
  refine ⟨⟨L, h1, h2, fun x hx => (h3 x hx).mono k⟩, S.nd, S.fits, S.pl, S.led, fun hD => ?_⟩
  obtain ⟨occ, T, K, Y⟩ := S.small hD
  exact ⟨occ, T, fun j x hj hx => (K j x hj hx).mono k, Y⟩
theorem SetIs.size (S : SetIs W g D es t) : es.size = D.length := by
  obtain ⟨L, h1, h2, _⟩ := S.ents
  have := h2.length_eq
  rw [List.length_map] at this
  rw [← Array.length_toList, h1, List.length_map, this]
theorem entR_snd {x y : Row × Addr} (e : entR W x = entR W y) : x.2 = y.2 := by
  rw [entR_eq, entR_eq] at e
  have := (Prod.mk.inj e).2
  injection this
theorem SetIs.inT (S : SetIs W g D es t) (T : Tab W t es occ) (K : KeysAt W g occ) : InT occ r ↔ r ∈ D := by
  obtain ⟨L, h1, h2, h3⟩ := S.ents
  have e := T.ents
  rw [h1] at e
  constructor
  · rintro ⟨j, x, hj, hx, rfl⟩
    have hm : entR W x ∈ (List.range 8).filterMap fun j => (occ j).map (entR W) := List.mem_filterMap.mpr ⟨j, List.mem_range.mpr hj, by rw [hx]; rfl⟩
    rw [← e] at hm
    obtain ⟨y, hy, ey⟩ := List.mem_map.mp hm
    have e2 := entR_snd ey
    have := TupAt.inj (h3 y hy).at (by rw [e2]; exact K j x hj hx)
    rw [← this]
    exact h2.mem_iff.mp (List.mem_map_of_mem hy)
  · intro hr
    obtain ⟨y, hy, rfl⟩ := List.mem_map.mp (h2.mem_iff.mpr hr)
    have hm : entR W y ∈ L.map (entR W) := List.mem_map_of_mem hy
    rw [e] at hm
    obtain ⟨j, hj, hje⟩ := List.mem_filterMap.mp hm
    cases ho : occ j with
    | none => rw [ho] at hje; cases hje
    | some x =>
      rw [ho] at hje
      have e2 : x.2 = y.2 := entR_snd (Option.some.inj hje)
      refine ⟨j, x, List.mem_range.mp hj, ho, TupAt.inj (K j x (List.mem_range.mp hj) ho) (by rw [e2]; exact (h3 y hy).at)⟩

theorem byScan_ref : byScan (.ref b) es = false := rfl
/-- whether it is there -/
theorem wp_setFind {Q : Option Nat → Shared → Prop} (hu : A.units < cLine) (ho : s.heap.get? a = some (setObj es ep t)) (S : SetIs W s.heap D es t) (hD : D.length ≤ 4) (hb : TupAt W s.heap r b)
    (h : ∀ i : Option Nat, i.isSome = decide (r ∈ D) → Q i s) : wpAny (Mo W) A (setFind a (.ref b) (HR W r)) Q E s := by
  obtain ⟨occ, T, K, Y⟩ := S.small hD
  have hin := S.inT (r := r) T K
  unfold setFind setFindIn
  refine wpAny_bind (wpAny_setState_of ho rfl S.fits ?_)
  dsimp only
  rw [byScan_ref]
  simp only [Bool.false_eq_true, if_false]
  refine wpAny_bind (wp_search0 hu ho T K Y (by rw [S.size]; omega) hb (fun j _ _ _ hno => ?_) (fun i hs hi => ?_))
  · exact wpAny_pure (h none (by rw [decide_eq_false (fun q => hno (hin.mpr q))]; rfl))
  · exact wpAny_pure (h i (by rw [decide_eq_true (hin.mp hi)]; exact hs rfl))
theorem wp_hashByValue {Q : Bool → Shared → Prop} (hb : TupAt W s.heap r b) (h : Q false s) : wpAny (Mo W) A (hashByValue 8 (.ref b)) Q E s := by
  have hT := hb.typeIs
  obtain ⟨o, items, n, ho, _, hd, hi⟩ := hb
  unfold hashByValue
  refine wpAny_bind (wpAny_specialOf hT F.slot_tuple_hash.lookup ?_)
  show wpAny _ _ (seqItems? (.ref b) >>= _) _ _ s
  refine wpAny_bind (wpAny_seqItems ho hd ?_)
  have hst : ∃ x t r, items.toList = Value.str x t :: r := by
    generalize items.toList = l at hi
    cases hi with
    | cons h1 hs =>
      obtain ⟨t1, rfl⟩ := Value.isStrOf_shape h1
      exact ⟨_, _, _, rfl⟩
  obtain ⟨x, tk, rest, e⟩ := hst
  refine wpAny_bind ?_
  show wpAny _ _ (forIn items _ _) _ _ s
  rw [← Array.forIn_toList, e, List.forIn_cons]
  unfold hashByValue
  refine wpAny_bind (wpAny_bind (wpAny_pure ?_))
  simp only [Bool.not_false, if_true]
  exact wpAny_pure (wpAny_pure (wpAny_pure h))
end
end
section
open PySem PySem.W PyProof.Rows
section
variable {W : Wd} {A : Around} {E : Value → Shared → Prop} {s : Shared} {t : SetTable} {es : Array (Int × Value)} {ep : Nat} {occ : Occ} {a b : Addr} {r : Row} {D : List Row} {g : Heap}

theorem wp_storeSet {es' : Array (Int × Value)} {t' : SetTable} {Q : Unit → Shared → Prop} (ho : s.heap.get? a = some (setObj es ep t)) (hz : es'.size ≤ 1000)
    (h : ∀ h' ep', Heap.SameBut a s.heap h' → h'.get? a = some (setObj es' ep' t') → Q () { s with heap := h' }) : wpAny (Mo W) A (storeSet a es' t') Q E s := by
  refine wpAny_storeSet_of ho rfl (h _ (ep + 1) (Heap.SameBut.update ..) ?_) (by rw [sizeLine_eq]; omega)
  have := Heap.get?_update_self (Obj.putSet es' t') ho (by rw [putSet_of (o := setObj es ep t) es' t' rfl]; rfl)
  rw [this, putSet_of (o := setObj es ep t) es' t' rfl]

theorem perm_map {α β : Type} {f : α → β} : ∀ {l : List β} {m : List α}, l.Perm (m.map f) → ∃ m' : List α, l = m'.map f ∧ m'.Perm m
  | [], m, h => by
    have := h.length_eq
    cases m with
    | nil => exact ⟨[], rfl, .refl _⟩
    | cons _ _ => simp at this
  | x :: l, m, h => by
    have hx : x ∈ m.map f := h.mem_iff.mp List.mem_cons_self
    obtain ⟨y, hy, rfl⟩ := List.mem_map.mp hx
    obtain ⟨m1, m2, rfl⟩ := List.append_of_mem hy
    have h2 : (f y :: l).Perm (f y :: (m1 ++ m2).map f) := h.trans (by rw [List.map_append, List.map_cons, List.map_append]; exact List.perm_middle)
    obtain ⟨m', e, p⟩ := perm_map (m := m1 ++ m2) (List.Perm.cons_inv h2)
    exact ⟨y :: m', by rw [e]; rfl, (p.cons y).trans List.perm_middle.symm⟩
theorem wp_relay {Q : Unit → Shared → Prop} (ho : s.heap.get? a = some (setObj es ep t)) (hf : t.fits es.size = true) (h5 : es.size = 5)
    (h : ∀ h' es' ep' t', Heap.SameBut a s.heap h' → h'.get? a = some (setObj es' ep' t') → es'.toList.Perm es.toList → t'.fits es'.size = true → t'.plain = t.plain → t'.led = t.led → Q () { s with heap := h' }) :
    wpAny (Mo W) A (setRelay a (SetTable.grown 5)) Q E s := by
  unfold setRelay
  refine wpAny_bind (wpAny_setState_of ho rfl hf ?_)
  dsimp only
  have h32 : SetTable.sizeAbove (SetTable.grown 5) = 32 := by decide +kernel
  rw [h32, if_neg (by rw [sizeLine_eq]; omega)]
  obtain ⟨t', order, e1, e2, e3, e4, e5⟩ := relaid_ok t (es.map (·.1)) (by rw [Array.size_map, h5]; omega) (SetTable.grown 5) h32
  rw [Array.size_map] at e2 e3
  rw [e1]
  have hp := reorder_perm es order e2
  have hs : (order.filterMap (es[·]?)).size = es.size := by rw [← Array.length_toList, hp.length_eq, Array.length_toList]
  refine wpAny_bind (m := do
    if (order.filterMap (es[·]?)).size != es.size then unsupported "internal:set-table-lost-an-element"
    pure (order.filterMap (es[·]?), t')) ?_
  rw [hs]
  simp only [bne_self_eq_false, Bool.false_eq_true, if_false]
  refine wpAny_pure ?_
  refine wp_storeSet ho (by rw [hs]; omega) fun h' ep' sb hg => h h' _ ep' t' sb hg hp (by rw [hs]; exact e3) e4 e5

/-- put in -/
theorem wp_setAddHashed {Q : Bool → Shared → Prop} (hu : A.units < cLine) (ho : s.heap.get? a = some (setObj es ep t)) (hgs : g.StaysIn s.heap) (S : SetIs W g D es t) (hD : D.length ≤ 4) (hb : TupR g r b)
    (h0 : r ∈ D → Q false s)
    (h1 : ¬ r ∈ D → ∀ h' es' ep' t', Heap.SameBut a s.heap h' → h'.get? a = some (setObj es' ep' t') → SetIs W g (D ++ [r]) es' t' → Q true { s with heap := h' }) :
    wpAny (Mo W) A (setAddHashed a (.ref b) (HR W r)) Q E s := by
  obtain ⟨occ, T, K, Y⟩ := S.small hD
  have hin := S.inT (r := r) T K
  have hsz := S.size
  have hbs : TupAt W s.heap r b := (hb.mono hgs).at
  unfold setAddHashed
  refine wpAny_holding ?_
  unfold setAddHashedIn
  refine wpAny_bind (wpAny_setState_of ho rfl S.fits ?_)
  dsimp only
  rw [byScan_ref]
  simp only [Bool.false_eq_true, if_false]
  refine wpAny_bind (wp_search0 hu ho T (fun j x hj hx => (K j x hj hx).mono hgs) Y (by omega) hbs (fun j hj hf hw hno => ?_) (fun i hs hi => ?_))
  rotate_left
  · exact wpAny_pure (h0 (hin.mp hi))
  dsimp only
  have hrD : ¬ r ∈ D := fun q => hno (hin.mpr q)
  have hcont := h1 hrD
  refine wpAny_bind (wpAny_setState_of ho rfl S.fits ?_)
  dsimp only
  have hplain : ∀ {R : Bool → Shared → Prop} {k : Bool → Sem Bool}, (∀ byValue : Bool, (if byValue = true then (t.put j).1 else { (t.put j).1 with plain := false }) = { (t.put j).1 with plain := false } → wpAny (Mo W) A (k byValue) R E s) →
      wpAny (Mo W) A (if (t.put j).1.plain = true then hashByValue 8 (.ref b) >>= k else pure true >>= k) R E s := by
    intro R k hR
    by_cases hp : (t.put j).1.plain = true
    · rw [if_pos hp]
      exact wpAny_bind (wp_hashByValue hbs (hR false rfl))
    · rw [if_neg hp]
      refine wpAny_bind (wpAny_pure (hR true ?_))
      rw [if_pos rfl]
      rw [Bool.not_eq_true] at hp
      show (t.put j).1 = { (t.put j).1 with plain := false }
      rw [← hp]
  refine hplain fun byValue hbv => ?_
  rw [hbv]
  obtain ⟨hrank, T'⟩ := T.put hj hf (r, b) false t.led
  rw [hrank]
  have hent : (HR W r, Value.ref b) = entR W (r, b) := rfl
  rw [hent]
  have Y' := Y.put (b := b) hj hf hw hno
  have K' : KeysAt W g (oSet occ j (r, b)) := fun i x hi hx => by
    unfold oSet at hx
    split at hx
    · cases hx; exact hb.at
    · exact K i x hi hx
  obtain ⟨L, l1, l2, l3⟩ := S.ents
  have ents' : ∃ L' : List (Row × Addr), (SetTable.insertAt es (rank occ j) (entR W (r, b))).toList = L'.map (entR W) ∧ (L'.map Prod.fst).Perm (D ++ [r]) ∧ ∀ x ∈ L', TupR g x.1 x.2 := by
    refine ⟨L.take (rank occ j) ++ (r, b) :: L.drop (rank occ j), ?_, ?_, ?_⟩
    · rw [insertAt_toList, l1, List.map_append, List.map_cons, List.map_take, List.map_drop]
    · rw [List.map_append, List.map_cons]
      refine (List.perm_middle).trans ?_
      rw [← List.map_append, List.take_append_drop]
      exact (l2.cons r).trans (List.perm_append_singleton r D).symm
    · intro x hx
      rcases List.mem_append.mp hx with q | q
      · exact l3 x (List.mem_of_mem_take q)
      · rcases List.mem_cons.mp q with rfl | q
        · exact hb
        · exact l3 x (List.mem_of_mem_drop q)
  have nd' : (D ++ [r]).Nodup := List.nodup_append.mpr ⟨S.nd, List.nodup_cons.mpr ⟨by simp, List.nodup_nil⟩, fun x hx y hy e => by
    rw [List.mem_singleton] at hy; subst hy; subst e; exact hrD hx⟩
  have hsz' : (SetTable.insertAt es (rank occ j) (entR W (r, b))).size = D.length + 1 := by
    rw [← Array.length_toList, insertAt_toList, List.length_append, List.length_cons, List.length_take, List.length_drop, Array.length_toList, hsz]; omega
  have fits' := T'.fits (by rw [hsz']; omega)
  refine wpAny_bind (wp_storeSet ho (by rw [hsz']; omega) fun h' ep' sb hg => ?_)
  have hfill : ({ (t.put j).1 with plain := false } : SetTable).fill = D.length + 1 := by
    have := fits'
    unfold SetTable.fits at this
    simp only [Bool.and_eq_true, beq_iff_eq] at this
    unfold SetTable.fill
    rw [this.1, T'.dum, hsz']
    rfl
  have htf : ({ (t.put j).1 with plain := false } : SetTable).tooFull = decide ((D.length + 1) * 5 ≥ 21) := by
    unfold SetTable.tooFull
    rw [hfill, T'.mask]
  rw [htf]
  simp only [Bool.not_false, Bool.true_and, decide_eq_true_eq]
  by_cases h4 : D.length = 4
  · rw [if_pos (by omega)]
    rw [hsz, h4]
    refine wpAny_bind (wp_relay hg fits' (by rw [hsz', h4]) fun h'' es'' ep'' t'' sb2 hg2 hp2 hf2 hpl2 hl2 => wpAny_pure ?_)
    refine hcont h'' es'' ep'' t'' (sb.trans sb2) hg2 ⟨?_, nd', hf2, fun q => (by rw [hpl2] at q; cases q), fun q => hl2.trans (S.led q), fun q => (by simp at q; omega)⟩
    obtain ⟨L', m1, m2, m3⟩ := ents'
    rw [m1] at hp2
    obtain ⟨L'', n1, n2⟩ : ∃ L'' : List (Row × Addr), es''.toList = L''.map (entR W) ∧ L''.Perm L' := perm_map hp2
    exact ⟨L'', n1, (n2.map _).trans m2, fun x hx => m3 x (n2.mem_iff.mp hx)⟩
  · rw [if_neg (by omega)]
    exact wpAny_pure (hcont h' _ ep' _ sb hg ⟨ents', nd', fits', fun q => (by cases q), S.led, fun _ => ⟨_, T', K', Y'⟩⟩)
end
end
section
open PySem PySem.W PyProof.Rows
def setM (W : Wd) (D : List Row) : SemObj := objSem (fun _ => true) (fun g ρ o => ∃ es ep t, o = setObj es ep t ∧ SetIs W g D es t)
  (fun k r ⟨es, ep, t, e, S⟩ => ⟨es, ep, t, e, S.mono k⟩) (fun q x => x)
def setF (W : Wd) (D : List Row) : FzObj where
  rel g v := ∃ a es ep t, v = .ref a ∧ g.get? a = some (setObj es ep t) ∧ SetIs W g D es t
  mono := fun k ⟨a, es, ep, t, e, h, S⟩ => ⟨a, es, ep, t, e, k _ _ h, S.mono k⟩
def addR (D : List Row) (r : Row) : List Row := if r ∈ D then D else D ++ [r]
theorem addR_len (D : List Row) (r : Row) : (addR D r).length ≤ D.length + 1 := by
  unfold addR; split <;> simp

theorem SetIs.empty {W : Wd} {g : Heap} {led : Bool} (hl : W.w.params.followText "set-order" = false → led = true) : SetIs W g [] #[] (.fresh 0 0 led) :=
  ⟨⟨[], rfl, .refl _, fun x hx => by cases hx⟩, List.nodup_nil, rfl, fun _ => rfl, hl, fun _ => by
    refine ⟨fun _ => none, ⟨rfl, rfl, ?_, rfl⟩, ?_, ⟨?_, ?_⟩⟩
    · rfl
    · intro j x _ h; cases h
    · intro j x _ h; cases h
    · intro i j x y _ _ h; cases h⟩

section
variable {W : Wd} {c : Cx} {g g₁ : Heap} {ρ ρ₁ : Rho} {loc loc' : Loc} {σ σ' : Hp} {s s₁ : Shared} {n : Nat} {sc scope : Scope}
variable {K : MV → Hp → Prop} {KE : Xc → Hp → Prop}

theorem tupAt_of {r : Row} {v : Value} (h : VRel g ρ (rowM r) v) : ∃ b, v = .ref b ∧ TupR g r b := by
  obtain ⟨k, x⟩ := r
  unfold rowM at h
  cases h with
  | tup e hs =>
    rename_i a vs m
    cases hs with
    | cons h1 hs =>
    cases hs with
    | cons h2 hs =>
      cases hs
      cases h1
      cases h2
      exact ⟨a, rfl, _, _, m, e⟩

theorem add_ok {d : Nat} {D : List Row} {r : Row} {a va : Value} {E : Value → Shared → Prop} {A : Around} (hu : A.units + 5 < cLine) (G : Good W c g ρ loc σ s) (hd : σ[d]? = some (.sem (setM W D))) (hz : D.length ≤ 4) (ra : VRel g ρ (.obj d) a) (rv : VRel g ρ (rowM r) va) :
    wpAny (Mo W) A (call (.builtin "set.add") [a, va]) (Post W c g ρ loc s (fun m' σ' => m' = .none ∧ σ' = σ.set d (.sem (setM W (addR D r))))) E s := by
  obtain ⟨⟨p, p2⟩, hp, rfl, e2, o, ho, es, ep, t, rfl, S⟩ := sem_at G hd ra
  obtain ⟨b, rfl, hb⟩ := tupAt_of rv
  have e2 : p2 = p := e2
  subst e2
  have hT : s.TypeIs (.ref p2) "set" := ⟨_, ho, rfl⟩
  refine wpAny_call_entry F.slot_set_add hT F.entry_set_add ?_ (F.args_set_add_2 _ _)
  unfold Builtin.«set.add» Builtin.Frozenset.oneOther
  simp only [List.isEmpty_nil, bind_assoc]
  unfold Builtin.Frozenset.addrOf setAdd
  refine wpAny_bind (wpAny_pure ?_)
  try dsimp only
  refine wpAny_bind (wpAny_pure ?_)
  try dsimp only
  refine wpAny_bind ?_
  refine wpAny_holding ?_
  refine wpAny_bind (wpAny_pyHash_tuple (knd := SK W) ?_ (show TupAt W s.heap r b from (hb.mono G.gh).at) ?_)
  · show _ < cLine
    have : A.in1.units ≤ A.units + 3 := by show A.units + 1 ≤ _; omega
    omega
  refine wp_setAddHashed (s := { s with toks := s.toks + (([r.1, r.2] : List Str).length + 1) }) (g := g) ?_ ho G.gh S hz hb (fun hr => ?_) (fun hr h' es' ep' t' sb hg' S' => ?_)
  · show A.units + 1 < cLine; omega
  · show wpAny _ _ (ret Value.none) _ _ _
    refine wpAny_pure ⟨_, rfl, ?_⟩
    have e : addR D r = D := by unfold addR; rw [if_pos hr]
    rw [e]
    have es : σ.set d (.sem (setM W D)) = σ := by
      refine List.ext_getElem? fun i => ?_
      by_cases q : i = d
      · subst q; rw [List.getElem?_set_self (List.getElem?_eq_some_iff.mp hd).1, hd]
      · rw [List.getElem?_set_ne (Ne.symm q)]
    exact ⟨.none, σ, g, ρ, ⟨rfl, es.symm⟩, .tok _, G.tok _, .none⟩
  · show wpAny _ _ (ret Value.none) _ _ _
    refine wpAny_pure ⟨_, rfl, ?_⟩
    have e : addR D r = D ++ [r] := by unfold addR; rw [if_neg hr]
    rw [e]
    obtain ⟨G', st⟩ := G.upd1 (o' := .sem (setM W (D ++ [r]))) (t := s.toks + (([r.1, r.2] : List Str).length + 1)) hp sb.extBut (.sem ⟨rfl, _, hg', es', ep', t', rfl, S'⟩) (nogen_of hg' rfl)
    exact ⟨.none, _, g, ρ, ⟨rfl, rfl⟩, st, G', .none⟩
end
end
section
open PySem PySem.W PyProof.Rows
theorem compTurn_set (elt target iter : Expr) (ifs : List Expr) (scope : Scope) (pos : Pos) (it acc : Value) (env : Env) :
    compTurn (.SetComp elt [⟨target, iter, ifs, 0⟩] scope pos) 0 it acc env = (do
      standAt iter.pos
      match ← pyNext it with
      | none => pure (.done .next)
      | some v =>
        letOwnedTupleGo target it v
        assign target env v
        let mut ok := true
        for c in ifs do
          if ok then ok ← isTrue c env (eval c env)
        if ok then
          (do let v ← eval elt env; standAt elt.pos; let _ ← call (.builtin "set.add") [acc, v])
        again (.compLoop (.SetComp elt [⟨target, iter, ifs, 0⟩] scope pos) 0 it acc env)) := by rfl
theorem eval_SetComp' (elt gens scope pos) (env : Env) : eval (.SetComp elt gens scope pos) env =
    comprehension (.SetComp elt gens scope pos) scope env (firstIterPos gens pos) (newSet (.type "set")) (firstAsync gens) (firstIter gens env) := rfl

section
variable {prog : Program} {w : World} {A : Around} {s : Shared} {R : Result → Shared → Prop}
theorem compStart_set {elt target iter ifs rest scope pos it acc env}
    (h0 : codeAny (model prog w) A (.compLoop (.SetComp elt (⟨target, iter, ifs, 0⟩ :: rest) scope pos) 0 it acc env) R s)
    (h : wpAny (model prog w) A (pyIter it) (fun it' s' => codeAny (model prog w) A (.compLoop (.SetComp elt (⟨target, iter, ifs, 0⟩ :: rest) scope pos) 0 it' acc env) R s')
      (notedBy (model prog w) A env fun x s' => R (.error x) s') s) :
    codeAny (model prog w) A (.compStart (.SetComp elt (⟨target, iter, ifs, 0⟩ :: rest) scope pos) 0 it acc env) R s := by
  refine codeAny_of_tree ?_
  show wpAny _ _ ((compStart (.SetComp elt (⟨target, iter, ifs, 0⟩ :: rest) scope pos) 0 it acc env).onRaise (fun x => do noteFrame x env; standAt theWindowsPlace)) _ _ s
  refine wpAny_notedAt ?_
  unfold compStart
  show wpAny _ _ (ask >>= _) _ _ s
  refine wpAny_bind (wpAny_askSetting (wpAny_ite ?_))
  split
  · first
      | exact wpAny_bind (wpAny_pure (wpAny_pure (And.intro rfl h0)))
      | exact wpAny_pure (And.intro rfl h0)
  · refine wpAny_bind (wpAny_rule ?_)
    show wpAny _ _ (standAt iter.pos >>= _) _ _ s
    exact wpAny_bind (wpAny_standAt (wpAny_bind (wpAny_mono h (fun it' s' h' => wpAny_pure (And.intro rfl h')) fun _ _ x => x)))
theorem compLoop_anyS {R : Result → Shared → Prop} {elt target iter : Expr} {ifs : List Expr} {scope : Scope} {pos : Pos} {it acc : Value} {env : Env} (I : Nat → Shared → Prop)
    (turn : ∀ n s E, I n s → wpAny (model prog w) A (pyNext it) (fun r s₁ => match r with
      | none => R (.ok .next) s₁
      | some v => wpAny (model prog w) A (letOwnedTupleGo target it v) (fun _ s₁' => wpAny (model prog w) A (assign target env v) (fun _ s₂ =>
          wpAny (model prog w) A (forIn ifs true fun c r => if r = true then do let ok ← isTrue c env (eval c env); pure (ForInStep.yield ok) else pure (ForInStep.yield r)) (fun ok s₃ =>
            if ok = true then wpAny (model prog w) A (eval elt env) (fun x s₄ =>
              wpAny (model prog w) A (call (.builtin "set.add") [acc, x]) (fun _ s₅ => ∃ m, m < n ∧ I m s₅) E s₄) E s₃
            else ∃ m, m < n ∧ I m s₃) E s₂) E s₁') E s₁) E s)
    (n : Nat) (h : I n s) : codeAny (model prog w) A (.compLoop (.SetComp elt [⟨target, iter, ifs, 0⟩] scope pos) 0 it acc env) R s := by
  refine codeAny_loop rfl I (fun n s hI => ?_) n h
  show wpAny _ A ((compTurn (.SetComp elt [⟨target, iter, ifs, 0⟩] scope pos) 0 it acc env).onRaise (fun x => do noteFrame x env; theTreesLotGoes x)) _ _ s
  refine wpAny_noted ?_
  rw [compTurn_set]
  refine wpAny_bind (wpAny_standAt (wpAny_bind (wpAny_mono (turn n s _ hI) (fun r s₁ h₁ => ?_) fun _ _ h' => h')))
  cases r with
  | none => exact wpAny_pure h₁
  | some v =>
    refine wpAny_bind (wpAny_mono h₁ (fun _ s₁' h₁ => ?_) fun _ _ h' => h')
    refine wpAny_bind (wpAny_mono h₁ (fun _ s₂ h₂ => wpAny_bind (wpAny_mono h₂ (fun ok s₃ h₃ => ?_) fun _ _ h' => h')) fun _ _ h' => h')
    cases ok with
    | false => exact wpAny_pure ⟨rfl, h₃⟩
    | true =>
      exact wpAny_bind (wpAny_bind (wpAny_mono h₃ (fun x s₄ h₄ => wpAny_bind (wpAny_standAt (wpAny_bind (wpAny_mono h₄ (fun _ s₅ h₅ => wpAny_pure (wpAny_pure ⟨rfl, h₅⟩)) fun _ _ h' => h')))) fun _ _ h' => h'))
end

section
variable {W : Wd} {c : Cx} {g g₁ : Heap} {ρ ρ₁ : Rho} {loc loc' : Loc} {σ σ' : Hp} {s s₁ : Shared} {n : Nat} {sc scope : Scope}
variable {K : MV → Hp → Prop} {KE : Xc → Hp → Prop}
theorem comp_indS (hn : n % 1000 ≤ 60) {elt target iter : Expr} {ifs : List Expr} {pos : Pos} {k d : Nat} {K : Hp → Prop} (I : Nat → Hp → Prop)
    (turn : ∀ m σ, I m σ → NxtP W n target k σ (fun mv σ₁ => AsQ W n sc target mv loc' σ₁ (fun loc₂ σ₂ => SubL loc' loc₂ ∧ TestsP W n sc ifs loc₂ σ₂ (fun b σ₃ =>
      (b = true → EvP W n sc elt loc₂ σ₃ (fun mv' σ₄ => ∃ D r, mv' = rowM r ∧ σ₄[d]? = some (.sem (setM W D)) ∧ D.length ≤ 4 ∧ ∃ m', m' < m ∧ Less (max (max (k + 1) (d + 1)) σ'.length) (fun l σ => l = loc' ∧ I m' σ) loc₂ (σ₄.set d (.sem (setM W (addR D r))))) NE) ∧
      (b = false → ∃ m', m' < m ∧ Less (max (max (k + 1) (d + 1)) σ'.length) (fun l σ => l = loc' ∧ I m' σ) loc₂ σ₃)))) K)
    (m : Nat) (h : I m σ') : CompP W n sc (.SetComp elt [⟨target, iter, ifs, 0⟩] scope pos) k d loc' σ' K := by with_unfolding_all exact (fun c g ρ s v va C G r ra => by
  refine compLoop_anyS (fun m s' => ∃ σ₁ g₁ ρ₁, I m σ₁ ∧ Step c g ρ s g₁ ρ₁ s' ∧ Good W c g₁ ρ₁ loc' σ₁ s' ∧ VRel g₁ ρ₁ (.obj k) v ∧ VRel g₁ ρ₁ (.obj d) va) ?_ m ⟨σ', g, ρ, h, .refl, G, r, ra⟩
  rintro m s₀ E ⟨σ₁, g₁, ρ₁, hI, st₁, G₁, r₁, ra₁⟩
  have again : ∀ {loc₄ σ₄ g₄ ρ₄ s₅}, Step c g ρ s g₄ ρ₄ s₅ → Good W c g₄ ρ₄ loc₄ σ₄ s₅ → (∃ m', m' < m ∧ Less (max (max (k + 1) (d + 1)) σ'.length) (fun l σ => l = loc' ∧ I m' σ) loc₄ σ₄) →
      ∃ m', m' < m ∧ ∃ σ₁ g₁ ρ₁, I m' σ₁ ∧ Step c g ρ s g₁ ρ₁ s₅ ∧ Good W c g₁ ρ₁ loc' σ₁ s₅ ∧ VRel g₁ ρ₁ (.obj k) v ∧ VRel g₁ ρ₁ (.obj d) va := by
    intro loc₄ σ₄ g₄ ρ₄ s₅ st₄ G₄ ⟨m', lt, hL⟩
    obtain ⟨l, σ'', ρ'', ⟨rfl, hI'⟩, st', G', keep⟩ := G₄.less st₄ (by rw [← G.len]; omega) hL
    exact ⟨m', lt, σ'', g₄, ρ'', hI', st', G', keep _ _ (by omega) (r.mono st₄.ge st₄.re), keep _ _ (by omega) (ra.mono st₄.ge st₄.re)⟩
  refine wpAny_mono (turn m σ₁ hI sc c g₁ ρ₁ loc' s₀ v E C G₁ r₁) (fun x s₂ q => ?_) fun _ _ x => x
  cases x with
  | none =>
    obtain ⟨σ₂, g₂, ρ₂, hE, st₂, G₂⟩ := q
    exact ⟨_, rfl, _, σ₂, g₂, ρ₂, hE, st₁.trans st₂, G₂⟩
  | some x =>
    refine wpAny_mono q (fun _ s₃ q => ?_) fun _ _ x => x
    obtain ⟨mv, σ₂, g₂, ρ₂, hA, st₂, G₂, r₂⟩ := q
    refine wpAny_mono (hA c g₂ ρ₂ s₃ x E C G₂ r₂) (fun _ s₄ q => ?_) fun _ _ x => x
    obtain ⟨loc₃, σ₃, g₃, ρ₃, ⟨hsub, hT⟩, st₃, G₃⟩ := q
    have st13 := (st₁.trans st₂).trans st₃
    refine wpAny_mono (hT c g₃ ρ₃ s₄ E C G₃) (fun ok s₅ q => ?_) fun _ _ x => x
    obtain ⟨σ₄, g₄, ρ₄, ⟨h1, h2⟩, st₄, G₄⟩ := q
    have st14 := st13.trans st₄
    cases ok with
    | false => exact again st14 G₄ (h2 rfl)
    | true =>
      rw [if_pos rfl]
      refine wpAny_mono (h1 rfl c g₄ ρ₄ s₅ C G₄) (fun y s₆ q => ?_) fun _ _ q => q.none.elim
      obtain ⟨mv', σ₅, g₅, ρ₅, ⟨D, r, rfl, hit, hz, hm⟩, st₅, G₅, r₅⟩ := q
      have st15 := st14.trans st₅
      refine wpAny_mono (add_ok (by have := units_ok C hn; omega) G₅ hit hz (ra.mono st15.ge st15.re) r₅) (fun _ s₇ q => ?_) fun _ _ x => x
      obtain ⟨_, σ₆, g₆, ρ₆, ⟨rfl, rfl⟩, st₆, G₆, _⟩ := q
      exact again (st15.trans st₆) G₆ hm)
theorem ev_setcomp {elt target iter : Expr} {ifs : List Expr} {pos : Pos} (hok : compOk sc scope = true) (hcap : CapL sc scope loc' loc) (hs : ∀ env x, foldedSetIterable iter env x = pure x)
    (h : EvP W n sc iter loc σ (fun m σ₁ => IterP W n m σ₁ (fun k σ₂ => (∃ x, σ₂[k]? = some x) ∧ IterP W n (.obj k) (σ₂ ++ [.sem (setM W [])]) (fun k' σ' => k' = k ∧ σ' = σ₂ ++ [.sem (setM W [])]) ∧ CompP W n (compScope sc scope) (.SetComp elt [⟨target, iter, ifs, 0⟩] scope pos) k σ₂.length loc' (σ₂ ++ [.sem (setM W [])]) (fun σ₄ =>
      ∃ D, σ₄[σ₂.length]? = some (.sem (setM W D)) ∧ (σ₄.take σ₁.length).all (·.ok σ₁.length) = true ∧ σ₁.length ≤ σ₂.length ∧ K (.fz (setF W D)) (σ₄.take σ₁.length)))) KE) :
    EvP W n sc (.SetComp elt [⟨target, iter, ifs, 0⟩] scope pos) loc σ K KE := by with_unfolding_all exact (fun c g ρ s C G => by
  rw [eval_SetComp']
  refine wpAny_comprehension_free (use := none) rfl (hs _) (closure_ok C.scE hok C.cellx) (compOk.kind hok) (fun x hx hl => lookup_nodup (compOk.nodup hok) (by rw [← hl]; exact hx)) (wpAny_mono (h c g ρ s C G) (fun v s₁ q => ?_) fun _ _ x => x)
  obtain ⟨m, σ₁, g₁, ρ₁, k₁, st₁, G₁, r₁⟩ := q
  refine wpAny_mono (k₁ sc c g₁ ρ₁ loc s₁ v _ C G₁ r₁) (fun it s₂ q => ?_) fun _ _ x => x
  obtain ⟨m', σ₂, g₂, ρ₂, ⟨k, rfl, ⟨xk, hxk⟩, hI, hL⟩, st₂, G₂, r₂⟩ := q
  unfold newSet setsByText
  refine wpAny_bind (wpAny_bind (wpAny_askSetting (wpAny_pure ?_)))
  dsimp only
  generalize hled : SetTable.fresh 0 0 _ = tb
  obtain ⟨led, rfl, hlt⟩ : ∃ led, tb = .fresh 0 0 led ∧ (W.w.params.followText "set-order" = false → led = true) := ⟨_, hled.symm, fun q => by show (!W.w.params.followText "set-order") = true; rw [q]; rfl⟩
  have fr2 : s₂.heap.get? s₂.heap.objs.size = none := Heap.get?_none_of_le (Nat.le_refl _)
  obtain ⟨G₃, st₃⟩ := G₂.allocM (o := setObj #[] 0 (.fresh 0 0 led)) (mo := .sem (setM W [])) rfl (t := s₂.toks) (fun h' e _ => ORel.sem ⟨rfl, _, e, #[], 0, .fresh 0 0 led, rfl, .empty hlt⟩) rfl
  refine wpAny_newObj_type ?_ (Nat.zero_le _)
  have hd3 : (ρ₂ ++ [(s₂.heap.objs.size, s₂.heap.objs.size)])[σ₂.length]? = some (s₂.heap.objs.size, s₂.heap.objs.size) := by rw [G₂.len]; simp
  generalize hs3 : ({ s₂ with heap := s₂.heap.push (setObj #[] 0 (.fresh 0 0 led)), toks := s₂.toks } : Shared) = s₃ at G₃ st₃
  generalize hρ3 : ρ₂ ++ [(s₂.heap.objs.size, s₂.heap.objs.size)] = ρ₃ at G₃ st₃ hd3
  have rd : VRel g₂ ρ₃ (.obj σ₂.length) (.ref s₂.heap.objs.size) := .obj hd3
  have frC : s₃.heap.get? s₃.heap.objs.size = none := Heap.get?_none_of_le (Nat.le_refl _)
  refine wpAny_newFunctionEnv (compOk.noCell hok) (by intro y hy; simp at hy) (fun h₄ hns hsb => ?_) (compOk.kind hok)
  have keep4 : ∀ b o, s₃.heap.get? b = some o → h₄.get? b = some o := fun b o e => by
    have nb : b ≠ s₃.heap.objs.size := fun q => by rw [q, frC] at e; cases e
    exact (hsb.2 b nb).trans (Heap.get?_push_of_some _ e)
  have C' := C.comp G₃ hok frC
  have G₄ := G₃.comp (h' := h₄) (t := s₃.toks + ([] : List (Str × Value)).length) C hok frC ⟨_, hns⟩ keep4 hcap
  have r3 := r₂.mono st₃.ge st₃.re
  have fin : ∀ s₄' g₄' ρ₄' v', Step (compCx c scope s₃.heap s₃.heap.objs.size) g₂ ρ₃ { s₃ with heap := h₄, toks := s₃.toks + ([] : List (Str × Value)).length } g₄' ρ₄' s₄' → Good W (compCx c scope s₃.heap s₃.heap.objs.size) g₄' ρ₄' loc' (σ₂ ++ [.sem (setM W [])]) s₄' → VRel g₄' ρ₄' (.obj k) v' →
      codeAny (Mo W) c.A (.compLoop (.SetComp elt [⟨target, iter, ifs, 0⟩] scope pos) 0 v' (.ref s₂.heap.objs.size) (compCx c scope s₃.heap s₃.heap.objs.size).env)
        (compPost (Mo W) c.A (XPost W c g ρ loc s KE) none (Post W c g ρ loc s K) (.ref s₂.heap.objs.size) s₃.heap.objs.size) s₄' := by
    intro s₄' g₄' ρ₄' v' st4 G4 r4
    refine codeAny_mono (hL (compCx c scope s₃.heap s₃.heap.objs.size) g₄' ρ₄' s₄' v' _ C' G4 r4 (rd.mono st4.ge st4.re)) fun r s₅ hr => ?_
    obtain ⟨f, rfl, l₅, σ₅, g₅, ρ₅, ⟨D, hit, hok1, hle, hK⟩, st₅, G₅⟩ := hr
    obtain ⟨mC, hmC⟩ := G₅.ns.1
    refine ⟨mC, hmC, fun h₆ hs₆ => ?_⟩
    obtain ⟨G₆, st₆⟩ := G₃.compDone C hok frC keep4 (st4.trans st₅) G₅ (h' := h₆) hs₆
    have st26 := st₃.trans st₆
    have hl1 : σ₁.length = ρ₁.length := G₁.len
    have hk2 : ρ₁.length ≤ σ₁.length := by omega
    -- the accumulator leaves the handles and is frozen
    have rd6 : VRel g₅ ρ₅ (.obj σ₂.length) (.ref s₂.heap.objs.size) := rd.mono (st4.trans st₅).ge (st4.trans st₅).re
    obtain ⟨⟨a, a2⟩, hpd, epd⟩ := rd6.obj_inv
    have epd : a = s₂.heap.objs.size := epd
    subst epd
    have zz := G₆.objs _ _ _ hpd hit
    obtain ⟨es, ep, t, ea, hS⟩ : ∃ es ep t, h₆.get? s₂.heap.objs.size = some (setObj es ep t) ∧ SetIs W g₅ D es t := by
      cases zz with
      | sem z => obtain ⟨_, o, ho, es, ep, t, rfl, S⟩ := z; exact ⟨es, ep, t, ho, S⟩
    have G₇ := G₆.take (k := σ₁.length) (fun x mv e => G₁.locOk hk2 x mv e) hok1
    have st₇ := (st₂.trans st26).take (k := σ₁.length) hk2
    have nin : ∀ p ∈ ρ₅.take σ₁.length, p.1 ≠ s₂.heap.objs.size ∧ p.2 ≠ s₂.heap.objs.size := fun p hp => by
      obtain ⟨j, hj, ej⟩ := List.mem_iff_getElem.mp hp
      have hj' : j < σ₁.length := by rw [List.length_take] at hj; omega
      have ej' : ρ₅[j]? = some p := by rw [← ej, List.getElem_take, List.getElem?_eq_getElem]
      have := G₆.apart ej' hpd (by omega)
      exact ⟨this.1, this.2.2.1⟩
    have Pa : Priv c g₅ (ρ₅.take σ₁.length) s₂.heap.objs.size := by
      have hm := List.mem_of_getElem? hpd
      have P2 := G₂.fresh fr2
      exact ⟨(G₆.gρ _ hm).1, nin, P2.l, P2.cl, P2.k⟩
    obtain ⟨G₈, st₈, e₈, le₈⟩ := G₇.freeze st₇ (fun b o e P q => by
      have := (st₂.ke b o e P).1
      rw [q, fr2] at this; cases this) Pa ea
    exact ⟨.fz (setF W D), σ₅.take σ₁.length, _, _, hK, st₁.trans st₈, G₈, .fz ⟨_, es, ep, t, rfl, e₈, hS.mono le₈⟩⟩
  refine compStart_set (fin _ g₂ ρ₃ it .refl G₄ r3) ?_
  refine wpAny_mono (hI (compScope sc scope) (compCx c scope s₃.heap s₃.heap.objs.size) g₂ ρ₃ loc' _ it _ C' G₄ r3) (fun it' s₄' q => ?_) fun _ _ x => x
  obtain ⟨m'', σ4, g₄', ρ₄', ⟨k', rfl, rfl, rfl⟩, st4, G4, r4⟩ := q
  exact fin s₄' g₄' ρ₄' it' st4 G4 r4)
end
end
section
open PySem PySem.W PyProof.Rows
/-- nothing changed but what was drawn -/
def Same (s s' : Shared) : Prop := s'.heap = s.heap ∧ s'.gens = s.gens ∧ s'.os = s.os
theorem Same.refl (s : Shared) : Same s s := ⟨rfl, rfl, rfl⟩
theorem Same.trans {a b c : Shared} (x : Same a b) (y : Same b c) : Same a c := ⟨y.1.trans x.1, y.2.1.trans x.2.1, y.2.2.trans x.2.2⟩

theorem erase_perm {α : Type} : ∀ {l : List α} {i : Nat} (h : i < l.length), (l[i] :: l.eraseIdx i).Perm l
  | x :: l, 0, h => .refl _
  | x :: l, i + 1, h => (List.Perm.swap x _ _).trans ((erase_perm (l := l) (i := i) (by simpa using h)).cons x)
theorem pick_go {α : Type} (next : Nat → Nat) : ∀ (fuel k : Nat) (left : List α) (out : Array α), fuel = left.length → (pickOrder.go next fuel k left out).toList.Perm (out.toList ++ left)
  | 0, k, left, out, h => by
    have : left = [] := List.length_eq_zero_iff.mp h.symm
    subst this
    unfold pickOrder.go
    rw [List.append_nil]
  | fuel + 1, k, left, out, h => by
    have hl : next k % left.length < left.length := Nat.mod_lt _ (by omega)
    unfold pickOrder.go
    rw [List.getElem?_eq_getElem hl]
    dsimp only
    refine (pick_go next fuel (k + 1) _ _ (by rw [List.length_eraseIdx, if_pos hl]; omega)).trans ?_
    rw [Array.toList_push, List.append_assoc]
    refine List.Perm.append_left _ ?_
    exact (erase_perm hl)
theorem pick_perm {α : Type} (next : Nat → Nat) (xs : Array α) : (pickOrder next xs).toList.Perm xs.toList := by
  unfold pickOrder
  refine (pick_go next xs.size 0 xs.toList #[] (by simp)).trans ?_
  simp

section
variable {W : Wd} {A : Around} {E : Value → Shared → Prop} {s : Shared} {t : SetTable} {es : Array (Int × Value)} {ep : Nat} {a b : Addr} {r : Row} {D : List Row}

theorem wp_choose {src : Source} {n : Nat} {Q : Nat → Shared → Prop} (hn : n ≠ 0) (h : ∀ i s', i < n → Same s s' → Q i s') : wpAny (Mo W) A (choose src n) Q E s := fun Γ p hΓ => by
  refine ⟨hn, ?_⟩
  exact h _ _ (Nat.mod_lt _ (Nat.pos_of_ne_zero hn)) ⟨rfl, rfl, rfl⟩
theorem wp_drawOrder {α : Type} : ∀ (n : Nat) (xs : List α) (s : Shared) {Q : List α → Shared → Prop}, n = xs.length → (∀ ys s', ys.Perm xs → Same s s' → Q ys s') → wpAny (Mo W) A (drawOrder n xs) Q E s
  | 0, xs, s, Q, hn, h => by
    have : xs = [] := List.length_eq_zero_iff.mp hn.symm
    subst this
    unfold drawOrder
    exact wpAny_pure (h [] s (.refl _) (.refl s))
  | n + 1, xs, s, Q, hn, h => by
    match xs, hn with
    | x :: l, hn =>
    unfold drawOrder
    refine wpAny_bind (wp_choose (by simp) fun i s1 hi S1 => ?_)
    rw [List.getElem?_eq_getElem hi]
    dsimp only
    refine wpAny_bind (wp_drawOrder n _ s1 (by rw [List.length_eraseIdx, if_pos hi]; omega) fun ys s2 hp S2 => wpAny_pure ?_)
    exact h _ s2 ((hp.cons _).trans (erase_perm hi)) (S1.trans S2)

theorem wp_setWalk {Q : Array (Int × Value) → Shared → Prop} (ho : s.heap.get? a = some (setObj es ep t)) (hf : t.fits es.size = true) (hp : t.plain = true → es.size = 0) (h : ∀ es' s', es'.toList.Perm es.toList → Same s s' → Q es' s') : wpAny (Mo W) A (setWalk a) Q E s := by
  unfold setWalk
  refine wpAny_bind (wpAny_setState_of ho rfl hf ?_)
  dsimp only
  unfold setsByText
  refine wpAny_bind (wpAny_bind (wpAny_askSetting (wpAny_pure ?_)))
  refine wpAny_ite_split (fun _ => ?_) (fun _ => ?_)
  · exact wpAny_bind (wpAny_askSetting (wpAny_pure (h _ s (pick_perm _ _) (.refl s))))
  · refine wpAny_ite_split (fun _ => ?_) (fun hd => ?_)
    · exact wpAny_bind (wp_drawOrder _ _ _ (by simp) fun ys s' hy S => wpAny_pure (h _ s' hy S))
    · have hd : ¬ (!t.plain && decide (es.size > 1)) = true := hd
      have h1 : es.size ≤ 1 := by
        cases hpl : t.plain with
        | true => have := hp hpl; omega
        | false => rw [hpl] at hd; simp at hd; omega
      refine wpAny_bind ?_
      show wpAny (Mo W) A (if (!t.led && decide (es.size > 1)) = true then unsupported "set:maker-not-led" else pure ()) _ E s
      rw [if_neg (by simp; omega)]
      exact wpAny_pure (wpAny_pure (h es s (.refl _) (.refl s)))

theorem entry_set_eq : entryFor table "set.__eq__" = some Builtin.«frozenset.__eq__» :=
  entryFor_alias (id' := "frozenset.__eq__") (by kernel_rfl) rfl (by decide +kernel) (by kernel_rfl)
theorem sub_set_frozen : isSubtype (.type "set") (.type "frozenset") = pure false := by rw [isSubtype_type]; kernel_rfl

theorem wp_isAnySet {Q : Bool → Shared → Prop} (ho : s.heap.get? a = some (setObj es ep t)) (h : Q true s) : wpAny (Mo W) A (Builtin.Frozenset.isAnySet (.ref a)) Q E s := by
  unfold Builtin.Frozenset.isAnySet
  have hT : s.TypeIs (.ref a) "set" := ⟨_, ho, rfl⟩
  exact wpAny_bind (wpAny_isInstance hT sub_set_self (wpAny_pure h))
theorem Good.same {c : Cx} {g : Heap} {ρ : Rho} {loc : Loc} {σ : Hp} {s' : Shared} (G : Good W c g ρ loc σ s) (S : Same s s') : Good W c g ρ loc σ s' := G.move (fun b o e _ => by rw [S.1]; exact e) S.2.2 S.2.1
theorem Step.same {c : Cx} {g : Heap} {ρ : Rho} {s' : Shared} (S : Same s s') : Step c g ρ s g ρ s' := ⟨StaysIn.refl _, RLe.refl _, fun b o e P => ⟨by rw [S.1]; exact e, P⟩⟩
end
end
section
open PySem PySem.W PyProof.Rows
section
variable {W : Wd} {A : Around} {E : Value → Shared → Prop} {s : Shared} {t t2 : SetTable} {es es2 : Array (Int × Value)} {ep ep2 : Nat} {a b : Addr} {r : Row} {D D2 : List Row}

theorem wp_quietEq {Q : Bool → Shared → Prop} (hb : TupAt W s.heap r b) (h : Q false s) : wpAny (Mo W) A (Builtin.Frozenset.quietEq (.ref b)) Q E s := by
  unfold Builtin.Frozenset.quietEq
  refine wpAny_bind (wpAny_specialOf hb.typeIs F.slot_tuple_eq.lookup (wpAny_pure ?_))
  exact h
theorem SetIs.refs (S : SetIs W s.heap D es t) : ∀ e ∈ es.toList, ∃ r b, e = (HR W r, .ref b) ∧ TupAt W s.heap r b ∧ r ∈ D := by
  obtain ⟨L, h1, h2, h3⟩ := S.ents
  intro e he
  rw [h1] at he
  obtain ⟨x, hx, rfl⟩ := List.mem_map.mp he
  exact ⟨x.1, x.2, rfl, (h3 x hx).at, h2.mem_iff.mp (List.mem_map_of_mem hx)⟩
theorem SetIs.has (S : SetIs W s.heap D es t) {l : List (Int × Value)} (hl : l.Perm es.toList) : ∃ L : List (Row × Addr), l = L.map (entR W) ∧ (L.map Prod.fst).Perm D ∧ ∀ x ∈ L, TupR s.heap x.1 x.2 := by
  obtain ⟨L, h1, h2, h3⟩ := S.ents
  rw [h1] at hl
  obtain ⟨L', e, p⟩ := perm_map hl
  exact ⟨L', e, (p.map _).trans h2, fun x hx => h3 x (p.mem_iff.mp hx)⟩

theorem wp_walkUnseen {Q : List (Int × Value) → Shared → Prop} (ho : s.heap.get? a = some (setObj es ep t)) (S : SetIs W s.heap D es t) (ho2 : s.heap.get? b = some (setObj es2 ep2 t2)) (S2 : SetIs W s.heap D2 es2 t2)
    (h : ∀ l s', l.Perm es.toList → Same s s' → Q l s') : wpAny (Mo W) A (Builtin.Frozenset.walkUnseen a b) Q E s := by
  unfold Builtin.Frozenset.walkUnseen
  refine wpAny_bind (wpAny_setEntries_of ho rfl S.fits ?_)
  refine wpAny_bind (wpAny_setEntries_of ho2 rfl S2.fits ?_)
  have hw : wpAny (Mo W) A (Builtin.Frozenset.walk a) Q E s := by
    unfold Builtin.Frozenset.walk
    exact wpAny_bind (wp_setWalk ho S.fits S.pl fun es' s' hp hs => wpAny_pure (h _ s' hp hs))
  have all : ∀ e ∈ es.toList ++ es2.toList, ∃ r b, e = (HR W r, .ref b) ∧ TupAt W s.heap r b := by
    intro e he
    rcases List.mem_append.mp he with q | q
    · obtain ⟨r, b, x, y, _⟩ := S.refs e q; exact ⟨r, b, x, y⟩
    · obtain ⟨r, b, x, y, _⟩ := S2.refs e q; exact ⟨r, b, x, y⟩
  generalize hl : es.toList ++ es2.toList = l at all
  cases l with
  | nil =>
    rw [List.forIn_nil]
    exact wpAny_bind (wpAny_pure (wpAny_pure (h _ s (.refl _) (.refl s))))
  | cons e l =>
    obtain ⟨r, b, rfl, hb⟩ := all e List.mem_cons_self
    rw [List.forIn_cons]
    refine wpAny_bind (wpAny_bind ?_)
    dsimp only
    refine wpAny_bind (wp_quietEq hb ?_)
    simp only [Bool.not_false, if_true]
    refine wpAny_bind (wpAny_mono hw (fun r s' q => wpAny_pure (wpAny_pure ?_)) fun _ _ x => x)
    dsimp only
    exact wpAny_pure q

theorem wp_subsetOf {id : String} {Q : Bool → Shared → Prop} (hu : A.units < cLine) (ho : s.heap.get? a = some (setObj es ep t)) (S : SetIs W s.heap D es t) (ho2 : s.heap.get? b = some (setObj es2 ep2 t2)) (S2 : SetIs W s.heap D2 es2 t2)
    (hz : D.length ≤ D2.length) (h4 : D2.length ≤ 4) (h : ∀ q s', (q = true ↔ ∀ x ∈ D, x ∈ D2) → Same s s' → Q q s') : wpAny (Mo W) A (Builtin.Frozenset.subsetOf id a b) Q E s := by
  unfold Builtin.Frozenset.subsetOf Builtin.Frozenset.sizeOf
  refine wpAny_bind (wpAny_bind (wpAny_setEntries_of ho rfl S.fits (wpAny_pure ?_)))
  refine wpAny_bind (wpAny_bind (wpAny_setEntries_of ho2 rfl S2.fits (wpAny_pure ?_)))
  rw [if_neg (by rw [S.size, S2.size]; omega)]
  refine wpAny_bind (wpAny_setEpoch_of ho rfl S.fits ?_)
  refine wpAny_bind (wp_walkUnseen ho S ho2 S2 fun l s₁ hp Sm => ?_)
  obtain ⟨L, rfl, hL, hT⟩ := S.has hp
  have ho' : s₁.heap.get? a = some (setObj es ep t) := by rw [Sm.1]; exact ho
  have ho2' : s₁.heap.get? b = some (setObj es2 ep2 t2) := by rw [Sm.1]; exact ho2
  have S2' : SetIs W s₁.heap D2 es2 t2 := by rw [Sm.1]; exact S2
  refine wpAny_bind ?_
  refine wpAny_forIn_list _ (fun rest r s' => r.1 = none ∧ s' = s₁ ∧ ∃ done left, L = done ++ left ∧ rest = left.map (entR W) ∧ ∀ x ∈ done, x.1 ∈ D2) _ ?_ ?_ _ _ ⟨rfl, rfl, [], L, rfl, rfl, fun x hx => by cases hx⟩
  · rintro e rest r s' ⟨hr, rfl, done, left, rfl, hrest, hdone⟩
    cases left with
    | nil => cases hrest
    | cons x left =>
      cases hrest
      have hx : TupAt W s.heap x.1 x.2 := (hT x (List.mem_append_right _ List.mem_cons_self)).at
      rw [entR_eq]
      dsimp only
      refine wpAny_bind (wpAny_holding (wp_setFind hu ho2' S2' h4 (by rw [Sm.1]; exact hx) fun i hi => ?_))
      by_cases hm : x.1 ∈ D2
      · rw [decide_eq_true hm] at hi
        have : i.isNone = false := by cases i <;> simp_all
        rw [this]
        simp only [Bool.false_eq_true, if_false]
        unfold Builtin.Frozenset.unchanged
        refine wpAny_bind (wpAny_bind (wpAny_setEpoch_of ho' rfl S.fits ?_))
        simp only [bne_self_eq_false, Bool.false_eq_true, if_false]
        refine wpAny_pure (wpAny_pure ⟨rfl, rfl, done ++ [x], left, by simp, rfl, ?_⟩)
        intro y hy
        rcases List.mem_append.mp hy with q | q
        · exact hdone y q
        · rw [List.mem_singleton] at q; subst q; exact hm
      · rw [decide_eq_false hm] at hi
        have : i.isNone = true := by cases i <;> simp_all
        rw [this]
        simp only [if_true]
        refine wpAny_pure (wpAny_pure (h false s' ?_ Sm))
        refine ⟨fun q => (by cases q), fun q => absurd (q x.1 (hL.mem_iff.mp (List.mem_map_of_mem (List.mem_append_right _ List.mem_cons_self)))) hm⟩
  · rintro ⟨r1, r2⟩ s' ⟨hr, rfl, done, left, rfl, hrest, hdone⟩
    simp only at hr
    subst hr
    have : left = [] := by cases left with | nil => rfl | cons _ _ => cases hrest
    subst this
    rw [List.append_nil] at hL
    refine wpAny_pure (h true s' ⟨fun _ x hx => ?_, fun _ => rfl⟩ Sm)
    obtain ⟨y, hy, rfl⟩ := List.mem_map.mp (hL.mem_iff.mpr hx)
    exact hdone y hy

theorem wp_set_eq {Q : Value → Shared → Prop} (hu : A.units + 5 < cLine) (ho : s.heap.get? a = some (setObj es ep t)) (S : SetIs W s.heap D es t) (ho2 : s.heap.get? b = some (setObj es2 ep2 t2)) (S2 : SetIs W s.heap D2 es2 t2)
    (hz : D.length = D2.length → D2.length ≤ 4) (h : ∀ q s', (q = true ↔ D.length = D2.length ∧ ∀ x ∈ D, x ∈ D2) → Same s s' → Q (.bool q) s') : wpAny (Mo W) A (compareOp .Eq (.ref a) (.ref b)) Q E s := by
  have hT : s.TypeIs (.ref a) "set" := ⟨_, ho, rfl⟩
  have hT2 : s.TypeIs (.ref b) "set" := ⟨_, ho2, rfl⟩
  show wpAny _ _ (richCompare .Eq (.ref a) (.ref b)) _ _ s
  refine wpAny_richCompare_same_room hT hT2 F.slot_set_eq ?_ (by omega)
  refine wpAny_call_entry F.slot_set_eq hT entry_set_eq ?_ (F.args_set_eq_2 _ _)
  show wpAny _ _ (Builtin.Frozenset.slot1 "__eq__" _ >>= _) _ _ s
  refine wpAny_bind ?_
  unfold Builtin.Frozenset.slot1
  refine wpAny_bind (m := slotArgs "__eq__" 1 _) (wpAny_pure ?_)
  refine wpAny_pure ?_
  refine wpAny_bind (wp_isAnySet ho2 ?_)
  simp only [Bool.not_true, Bool.false_eq_true, if_false]
  unfold Builtin.Frozenset.addrOf
  refine wpAny_bind (wpAny_pure ?_)
  try dsimp only
  refine wpAny_bind (wpAny_pure ?_)
  try dsimp only
  unfold Builtin.Frozenset.sizeOf
  refine wpAny_bind (wpAny_bind (wpAny_setEntries_of ho rfl S.fits (wpAny_pure ?_)))
  refine wpAny_bind (wpAny_bind (wpAny_setEntries_of ho2 rfl S2.fits (wpAny_pure ?_)))
  rw [S.size, S2.size]
  refine wpAny_bind ?_
  by_cases hs : D.length = D2.length
  · rw [if_neg (by simp [hs])]
    refine wpAny_bind ?_
    refine wpAny_bind (wpAny_isInstance hT sub_set_frozen (wpAny_pure ?_))
    simp only [Bool.false_eq_true, if_false]
    refine wp_subsetOf ?_ ho S ho2 S2 (by omega) (hz hs) fun q s' hq Sm => ?_
    · show A.units + 1 < cLine; omega
    · exact wpAny_pure ⟨_, rfl, (fun e : Value.bool q = Value.notImplemented => Value.noConfusion e), h q s' (by rw [hq]; exact ⟨fun x => ⟨hs, x⟩, fun x => x.2⟩) Sm⟩
  · rw [if_pos (by simpa using hs)]
    refine wpAny_pure ?_
    exact wpAny_pure ⟨_, rfl, (fun e : Value.bool false = Value.notImplemented => Value.noConfusion e), h false s ⟨fun x => (by cases x), fun x => absurd x.1 hs⟩ (.refl s)⟩
end
section
variable {W : Wd} {σ : Hp} {n : Nat} {K : MV → Hp → Prop} {KE : Xc → Hp → Prop}
theorem op_eq_sets {D D2 : List Row} (hn : n % 1000 ≤ 60) (hz : D.length = D2.length → D2.length ≤ 4) (h : ∀ q : Bool, (q = true ↔ D.length = D2.length ∧ ∀ x ∈ D, x ∈ D2) → K (.bool q) σ) : Op2 W n (compareOp .Eq) (.fz (setF W D)) (.fz (setF W D2)) σ K KE := by with_unfolding_all exact (fun sc c g ρ loc s v₁ v₂ C G r₁ r₂ => by
  cases r₁ with
  | fz x =>
  cases r₂ with
  | fz y =>
  obtain ⟨a, es, ep, t, rfl, ho, S⟩ := x
  obtain ⟨b, es2, ep2, t2, rfl, ho2, S2⟩ := y
  have := units_ok C hn
  refine wp_set_eq (by omega) (G.gh _ _ ho) (S.mono G.gh) (G.gh _ _ ho2) (S2.mono G.gh) hz fun q s' hq Sm => ?_
  exact ⟨.bool q, σ, g, ρ, h q hq, .same Sm, G.same Sm, .bool q⟩)
end
end
section
open PySem PySem.W PyProof.Rows
section
variable {W : Wd} {Kf : Frag} {σ : Hp} {n : Nat} {K : MV → Hp → Prop} {KE : Xc → Hp → Prop} {sc scope : Scope} {loc loc' : Loc}

def lowRow (r : Row) : Row := (low r.1, r.2)
/-- the set of the pairs, keys in small letters -/
def lowSet (rows : List Row) : List Row := rows.foldl (fun D r => addR D (lowRow r)) []
theorem lowSet_snoc (rows : List Row) (r : Row) : lowSet (rows ++ [r]) = addR (lowSet rows) (lowRow r) := by
  unfold lowSet; rw [List.foldl_append]; rfl
theorem lowSet_len (rows : List Row) : (lowSet rows).length ≤ rows.length := by
  have key : ∀ (rows D : List Row), (rows.foldl (fun D r => addR D (lowRow r)) D).length ≤ D.length + rows.length := by
    intro rows
    induction rows with
    | nil => intro D; simp
    | cons r rows ih =>
      intro D
      rw [List.foldl_cons, List.length_cons]
      have := ih (addR D (lowRow r))
      have := addR_len D (lowRow r)
      omega
  have := key rows []
  rw [List.length_nil, Nat.zero_add] at this
  exact this

theorem ev_setcomp_rows (F : Pr W Kf) {h l : Nat} {rows : List Row} {v : Str} {p1 pos : Pos} {elt iter : Expr} (hn : n ≤ 50) (hok : compOk sc scope = true) (hs : ∀ env x, foldedSetIterable iter env x = pure x)
    (hv : (compScope sc scope).names.lookup v = some .local)
    (hit : ∀ K' : MV → Hp → Prop, K' (.obj l) σ → EvP W n sc iter loc σ K' KE)
    (H : HasRows σ h l rows) (hw : wf σ) (h5 : rows.length ≤ 5)
    (he : ∀ r ∈ rows, ∀ τ, ∀ K' : MV → Hp → Prop, K' (rowM (lowRow r)) τ → EvP W n (compScope sc scope) elt [(v, rowM r)] τ K' NE)
    (hK : K (.fz (setF W (lowSet rows))) σ) : EvP W n sc (.SetComp elt [⟨.Name v p1, iter, [], 0⟩] scope pos) loc σ K KE := by
  refine ev_setcomp (loc' := []) hok capL_nil hs (hit _ ?_)
  refine iter_list (m := .obj l) (l := rowsM rows) (as_obj H.list) ?_
  refine ⟨⟨_, lookup_last _ _⟩, iter_listIt (lookup_app (lookup_last _ _)) ⟨rfl, rfl⟩, ?_⟩
  rw [show (σ ++ [MO.sem (listIt (MV.obj l) 0)]).length = σ.length + 1 by simp]
  have hll : l < σ.length := (List.getElem?_eq_some_iff.mp H.list).1
  have wS : ∀ p D, wf (σ ++ [.sem (listIt (.obj l) p)] ++ [.sem (setM W D)]) := fun p D => (hw.app fun k hk => by
    simp [MO.ok, listIt, objSem, MV.ok]; omega).app fun k hk => rfl
  have et : ∀ a b : MO, (σ ++ [a] ++ [b]).take σ.length = σ := fun a b => by rw [List.append_assoc]; exact List.take_left
  refine comp_indS (by omega) (fun m σ' => ∃ p, m = rows.length - p ∧ p ≤ rows.length ∧ σ' = σ ++ [.sem (listIt (.obj l) p)] ++ [.sem (setM W (lowSet (rows.take p)))]) ?_ rows.length ⟨0, rfl, Nat.zero_le _, rfl⟩
  rintro m σ' ⟨p, rfl, hp, rfl⟩
  have H3 := (H.app [MO.sem (listIt (.obj l) p)]).app [MO.sem (setM W (lowSet (rows.take p)))]
  refine nxt_list (by omega) (mid2 _ _ _) (as_obj H3.list) (fun mv hm => ?_) (fun hm => ?_)
  · rw [rowsM_get, Option.map_eq_some_iff] at hm
    obtain ⟨r, hr, rfl⟩ := hm
    have hpl := (List.getElem?_eq_some_iff.mp hr).1
    have e1 : rows.take (p + 1) = rows.take p ++ [r] := by rw [List.take_add_one, hr]; rfl
    rw [set_mid2]
    refine aq_name hv ?_
    refine ⟨sub_cons rfl (SubL.refl _), ?_⟩
    refine tests_nil ?_
    refine ⟨fun _ => ?_, nofun⟩
    refine he r (List.mem_of_getElem? hr) _ _ ?_
    have hlen := lowSet_len (rows.take p)
    rw [List.length_take] at hlen
    refine ⟨_, lowRow r, rfl, last2 _ _ _, by omega, rows.length - (p + 1), by omega, ?_⟩
    rw [set_last2]
    exact less_full (by simp) (sub_cons rfl (SubL.refl _)) rfl (wS _ _) ⟨rfl, p + 1, rfl, by omega, by rw [e1, lowSet_snoc]⟩
  · have e3 : p = rows.length := by
      rw [rowsM_get, Option.map_eq_none_iff, List.getElem?_eq_none_iff] at hm; omega
    subst e3
    rw [set_mid2]
    refine ⟨_, last2 _ _ _, by rw [et]; exact hw _ (Nat.le_refl _), by omega, ?_⟩
    rw [et, List.take_length]; exact hK

theorem c_eq (F : Pr W Kf) (hn : n ≤ 44) {h l h' l' : Nat} {rows rows' : List Row} (H : HasRows σ h l rows) (H' : HasRows σ h' l' rows') (hw : wf σ) (h4 : rows.length ≤ 4) (h5 : rows'.length ≤ 5)
    (hs : ∀ q : Bool, (q = true ↔ (lowSet rows').length = (lowSet rows).length ∧ ∀ x ∈ lowSet rows', x ∈ lowSet rows) → K (.bool q) σ) :
    CallM W n (.ref 314) [.obj h, .obj h'] [] σ K KE := by
  have FX : Sx W Kf := F.toSx
  refine call_cd (by omega) (CdP.cut ?_)
  obtain ⟨r, D⟩ := F.f314
  refine fn_call (body := bodyOf (hdrStmt 3)) D FX.lim (by omega) rfl ⟨rfl, rfl, rfl⟩ ?_
  refine bd_pos (ps := ["self", "other"]) (fun vs hv => ?_) rfl ?_
  · match vs, hv with
    | [a, b], _ => rfl
  refine ⟨rfl, ?_⟩
  walk_at "mv"
  refine ⟨_, rfl, by walk_at "mv_keep", ?_⟩
  walk_at "mv"
  refine call_isi (b := true) (t := .ref 527) FX (by simp only [typM, H'.inst]) (by simp [isiTs]) (by simp [isiCs]) rfl ?_
  refine tst_bool ?_
  refine ⟨nofun, fun _ => ?_⟩
  walk_at "mv"
  refine ev_setcomp_rows F (by omega) rfl (fun _ _ => rfl) rfl (fun K' hK => ?_) H' hw h5 (fun r hr τ K' hK => ?_) ?_
  · walk_at "mv"
    exact op_list_attr FX.toSf H'.inst hK
  · have hsr := H'.short r hr
    walk_at "mv"
    refine sub_tup (k := 0) (by simp) rfl ?_
    refine ⟨_, getM_lower, keep_builtin _, ?_⟩
    walk_at "mv"
    refine call_lower hsr.1 ?_
    walk_at "mv"
    refine sub_tup (k := 1) (by simp) rfl ?_
    walk_at "mv"
    exact ⟨by simp, hK⟩
  refine ev_setcomp_rows F (by omega) rfl (fun _ _ => rfl) rfl (fun K' hK => ?_) H hw (by omega) (fun r hr τ K' hK => ?_) ?_
  · walk_at "mv"
    exact op_list_attr FX.toSf H.inst hK
  · have hsr := H.short r hr
    walk_at "mv"
    refine sub_tup (k := 0) (by simp) rfl ?_
    refine ⟨_, getM_lower, keep_builtin _, ?_⟩
    walk_at "mv"
    refine call_lower hsr.1 ?_
    walk_at "mv"
    refine sub_tup (k := 1) (by simp) rfl ?_
    walk_at "mv"
    exact ⟨by simp, hK⟩
  refine op_eq_sets (by omega) (fun e => ?_) (fun q hq => ?_)
  · have := lowSet_len rows; omega
  · have := cut_same (ext := []) hw rfl (hs q hq)
    rw [List.append_nil] at this
    exact this
end
end
section
open PySem PySem.W PyProof.Rows
section
variable {W : Wd} {A : Around} {E : Value → Shared → Prop} {s : Shared}

theorem code_set_new1 (a : Value) {Q₁ : Value → Shared → Prop}
    (h : ∀ led : Bool, (W.w.params.followText "set-order" = false → led = true) → Q₁ (.ref s.heap.objs.size) { s with heap := s.heap.push (setObj #[] 0 (.fresh 0 0 led)) }) :
    codeAny (Mo W) A (.call (.builtin "set.__new__") ⟨[.type "set", a], []⟩) (wants Q₁ E) s := by
  refine codeAny_of_tree ?_
  show wpAny _ A.in1 (do checkBuiltinCall "set.__new__" ⟨[.type "set", a], []⟩; again (.builtin "set.__new__" ⟨[.type "set", a], []⟩)) _ _ s
  refine wpAny_bind (wpAny_of_eq (F.newCall_set_1 a) (wpAny_pure ⟨plainId_quiet F.plain_set_new _, codeAny_builtin F.entry_set_new ?_⟩))
  rw [Around.under_plainId F.plain_set_new _]
  unfold Builtin.«set.__new__» Builtin.Frozenset.newClass
  have hsub := sub_set_self
  obtain ⟨hp, g, d, tk, os⟩ := s
  dsimp only
  wp_walk
  refine wpAny_askSetting (wpAny_pure ?_)
  dsimp only
  simp only [newObj]
  refine wpAny_bind (wpAny_alloc (wpAny_pure ?_))
  exact wpAny_pure (h _ fun q => by
    show (!W.w.params.followText "set-order") = true
    rw [q]; rfl)
theorem call_set_with {v : Value} {Q : Value → Shared → Prop}
    (h : ∀ led : Bool, (W.w.params.followText "set-order" = false → led = true) → wpAny (Mo W) A.in1.in1 (Builtin.Frozenset.updateFrom "set.__init__" s.heap.objs.size v) (fun _ s₂ => Q (.ref s.heap.objs.size) s₂) E { s with heap := s.heap.push (setObj #[] 0 (.fresh 0 0 led)) }) :
    wpAny (Mo W) A (call (.type "set") [v]) Q E s := by
  obtain ⟨c, tl, hmro⟩ := F.called_set.mro
  have hmade := F.called_set.made
  have hsub := F.called_set.sub
  refine wpAny_call (codeAny_of_tree ?_)
  show wpAny _ _ (callAny (.type "set") _) _ _ _
  refine wpAny_pure ⟨Code.quiet_builtin _ (by decide +kernel), codeAny_builtin F.entry_type_call ?_⟩
  rw [Around.under_plain (weight_type_call_type "set" [v] []) rfl]
  have h1 := F.called_set.notType
  have h2 := F.called_set.canCreate
  have hct := F.typeCall_set_1 v
  repeat (any_goals (first | assumption | wp_step))
  refine codeAny_mono (code_set_new1 v (E := E) (Q₁ := fun obj s₁ => ∃ led : Bool, (W.w.params.followText "set-order" = false → led = true) ∧ obj = .ref s.heap.objs.size ∧ s₁ = { s with heap := s.heap.push (setObj #[] 0 (.fresh 0 0 led)) }) fun led hlt => ⟨led, hlt, rfl, rfl⟩) fun r s₁ hr => ?_
  cases r with
  | error e => exact hr
  | ok fl =>
    cases fl with
    | ret obj =>
      obtain ⟨led, hlt, rfl, rfl⟩ := hr
      have hS : (s.heap.push (setObj #[] 0 (.fresh 0 0 led))).get? s.heap.objs.size = some (setObj #[] 0 (.fresh 0 0 led)) := Heap.get?_push_size _ rfl
      have hT : Shared.TypeIs { s with heap := s.heap.push (setObj #[] 0 (.fresh 0 0 led)) } (.ref s.heap.objs.size) "set" := ⟨_, hS, rfl⟩
      have hli := F.called_set.init.lookup
      have hbi := F.called_set.init.bind (.ref s.heap.objs.size)
      repeat (any_goals (first | assumption | wp_step))
      refine codeAny_mono (codeAny_call_builtin (R := wants (fun r s₂ => r = .none ∧ Q (.ref s.heap.objs.size) s₂) E) F.called_set.init.plain F.entry_set_init (check_set_init_1 hT ?_)) fun r₂ s₂ hr₂ => ?_
      · have hL := h led hlt
        unfold Builtin.«set.__init__» noKeywords
        generalize hPI : Builtin.Frozenset.updateFrom = PI at hL ⊢
        wp_walk
        refine wpAny_mono hL (fun _ s₂ hq => ?_) fun _ _ x => x
        exact wpAny_pure ⟨rfl, hq⟩
      · cases r₂ with
        | error e => exact hr₂
        | ok fl₂ =>
          cases fl₂ with
          | ret r =>
            obtain ⟨rfl, hq⟩ := hr₂
            repeat (any_goals (first | assumption | wp_step))
          | _ => exact hr₂.elim
    | _ => exact hr.elim
end
end
section
open PySem PySem.W PyProof.Rows
def dedup (rows : List Row) : List Row := rows.foldl addR []
theorem dedup_snoc (rows : List Row) (r : Row) : dedup (rows ++ [r]) = addR (dedup rows) r := by
  unfold dedup; rw [List.foldl_append]; rfl
theorem dedup_len (rows : List Row) : (dedup rows).length ≤ rows.length := by
  have key : ∀ (rows D : List Row), (rows.foldl addR D).length ≤ D.length + rows.length := by
    intro rows
    induction rows with
    | nil => intro D; simp
    | cons r rows ih =>
      intro D
      rw [List.foldl_cons, List.length_cons]
      have := ih (addR D r)
      have := addR_len D r
      omega
  have := key rows []
  rw [List.length_nil, Nat.zero_add] at this
  exact this
section
variable {W : Wd} {Kf : Frag} {c : Cx} {g g₁ : Heap} {ρ ρ₁ : Rho} {loc loc' : Loc} {σ σ' : Hp} {s s₁ : Shared} {n : Nat} {sc scope : Scope}
variable {K : MV → Hp → Prop} {KE : Xc → Hp → Prop}

/-- put in, without the call -/
theorem put_ok {d : Nat} {D : List Row} {r : Row} {a : Addr} {va : Value} {E : Value → Shared → Prop} {Q : Bool → Shared → Prop} {A : Around} (hu : A.units + 5 < cLine) (G : Good W c g ρ loc σ s) (hd : σ[d]? = some (.sem (setM W D))) (hz : D.length ≤ 4) (ra : VRel g ρ (.obj d) (.ref a)) (rv : VRel g ρ (rowM r) va)
    (h : ∀ b s', Good W c g ρ loc (σ.set d (.sem (setM W (addR D r)))) s' → Step c g ρ s g ρ s' → Q b s') : wpAny (Mo W) A (setAdd a va) Q E s := by
  obtain ⟨⟨p, p2⟩, hp, ep, e2, o, ho, es, ep', t, rfl, S⟩ := sem_at G hd ra
  injection ep with ep
  have ep : a = p := ep
  subst ep
  obtain ⟨b, rfl, hb⟩ := tupAt_of rv
  have e2 : p2 = a := e2
  subst e2
  unfold setAdd
  refine wpAny_holding ?_
  refine wpAny_bind (wpAny_pyHash_tuple (knd := SK W) (by omega) (show TupAt W s.heap r b from (hb.mono G.gh).at) ?_)
  refine wp_setAddHashed (s := { s with toks := s.toks + (([r.1, r.2] : List Str).length + 1) }) (g := g) (by omega) ho G.gh S hz hb (fun hr => ?_) (fun hr h' es' ep' t' sb hg' S' => ?_)
  · have e : addR D r = D := by unfold addR; rw [if_pos hr]
    rw [e, set_same hd] at h
    exact h _ _ (G.tok _) (.tok _)
  · have e : addR D r = D ++ [r] := by unfold addR; rw [if_neg hr]
    rw [e] at h
    obtain ⟨G', st⟩ := G.upd1 (o' := .sem (setM W (D ++ [r]))) (t := s.toks + (([r.1, r.2] : List Str).length + 1)) hp sb.extBut (.sem ⟨rfl, _, hg', es', ep', t', rfl, S'⟩) (nogen_of hg' rfl)
    exact h _ _ G' st

/-- the rest of an iterator goes into a set -/
theorem into_ind {k d : Nat} {K : Hp → Prop} (hn : n ≤ 50) (I : Nat → Hp → Prop)
    (turn : ∀ m σ, I m σ → NxtP W (n + 1) (.Name default default) k σ (fun mv σ₁ => ∃ D r, mv = rowM r ∧ σ₁[d]? = some (.sem (setM W D)) ∧ D.length ≤ 4 ∧ ∃ m', m' < m ∧ I m' (σ₁.set d (.sem (setM W (addR D r))))) K)
    (m : Nat) (h : I m σ') {v : Value} {a : Addr} (C : COk W n sc c) (G : Good W c g ρ loc σ' s) (r : VRel g ρ (.obj k) v) (ra : VRel g ρ (.obj d) (.ref a)) :
    codeAny (Mo W) c.A (.builtin "set.update.loop" ⟨[.ref a, v], []⟩) (fun r s' => r = .ok (.ret .none) ∧ PostA W c g ρ loc s (fun (_ : Unit) σ' => K σ') () s') s := by with_unfolding_all
  suffices H : ∀ (m : Nat) (σ₁ : Hp) g₁ ρ₁ s₁, I m σ₁ → Step c g ρ s g₁ ρ₁ s₁ → Good W c g₁ ρ₁ loc σ₁ s₁ → VRel g₁ ρ₁ (.obj k) v → VRel g₁ ρ₁ (.obj d) (.ref a) →
      codeAny (Mo W) c.A (.builtin "set.update.loop" ⟨[.ref a, v], []⟩) (fun r s' => r = .ok (.ret .none) ∧ PostA W c g ρ loc s (fun (_ : Unit) σ' => K σ') () s') s₁ from H m σ' g ρ s h .refl G r ra
  intro m
  induction m using Nat.strongRecOn with
  | ind m ih =>
  intro σ₁ g₁ ρ₁ s₁ hI st₁ G₁ r₁ ra₁
  refine codeAny_builtin PyProof.Rows.F.entry_set_update_loop ?_
  rw [Around.under_plainId PyProof.Rows.F.plain_set_update_loop _]
  show wpAny _ c.A.in1 (pyNext v >>= _) _ _ s₁
  refine wpAny_bind (wpAny_mono (turn m σ₁ hI sc (c.at c.A.in1) g₁ ρ₁ loc s₁ v _ (C.in1 hn) (G₁.at _) r₁) (fun x s₂ q => ?_) fun _ _ x => x)
  cases x with
  | none =>
    obtain ⟨σ₂, g₂, ρ₂, hK, st₂, G₂⟩ := q
    exact wpAny_pure ⟨rfl, σ₂, g₂, ρ₂, hK, st₁.trans st₂.un, G₂.un⟩
  | some x =>
    refine fun Γ p hΓ => ?_
    have q' : Post W (c.at c.A.in1) g₁ ρ₁ loc s₁ _ x s₂ := q Γ p hΓ
    obtain ⟨mv, σ₂, g₂, ρ₂, ⟨D, r, rfl, hd, hz, m', hm', hI'⟩, st₂, G₂, r₂⟩ := q'
    refine (?_ : wpAny _ _ (holding [x] (setAdd a x) >>= _) _ _ _) Γ p hΓ
    have st12 := st₁.trans st₂.un
    refine wpAny_bind (wpAny_holding (put_ok ?_ G₂.un hd hz (ra₁.mono st₂.ge st₂.re) r₂ fun _ s₃ G₃ st₃ => ?_))
    · have := (C.in1 hn).un
      have : c.A.in1.units ≤ 20 * ((n + 1) % 1000) := this
      show _ < 9900
      omega
    exact wpAny_pure ⟨plainId_quiet PyProof.Rows.F.plain_set_update_loop _, ih m' hm' _ g₂ ρ₂ s₃ hI' (st12.trans st₃) G₃ (r₁.mono st₂.ge st₂.re) (ra₁.mono st₂.ge st₂.re)⟩
end
end
section
open PySem PySem.W PyProof.Rows
section
variable {W : Wd} {Kf : Frag} {c : Cx} {g g₁ : Heap} {ρ ρ₁ : Rho} {loc loc' : Loc} {σ σ' : Hp} {s s₁ : Shared} {n : Nat} {sc scope : Scope}
variable {K : MV → Hp → Prop} {KE : Xc → Hp → Prop}

theorem wp_runTo {A : Around} {E : Value → Shared → Prop} {co : Code} {Q : Value → Shared → Prop} (h : codeAny (Mo W) A co (fun r s' => ∃ v, r = .ok (.ret v) ∧ Q v s') s) : wpAny (Mo W) A (runValue co) Q E s :=
  wpAny_runValue (codeAny_mono h fun r s' ⟨v, e, q⟩ => by subst e; exact q)

theorem call_set_rows {rows : List Row} (hn : n ≤ 45) (h5 : rows.length ≤ 5) (hw : wf σ) (hK : K (.fz (setF W (dedup rows))) σ) : CallM W n (.type "set") [.lst (rowsM rows)] [] σ K KE := by with_unfolding_all exact (fun sc c g ρ loc s vs kvs C G r kr => by
  cases kr
  cases r with | cons r₁ r₂ =>
  cases r₂
  rename_i v
  obtain ⟨la, vs, n', rfl, hla, hvs⟩ := list_at G (m := .lst (rowsM rows)) rfl r₁
  have fr : s.heap.get? s.heap.objs.size = none := Heap.get?_none_of_le (Nat.le_refl _)
  refine call_set_with fun led hlt => ?_
  obtain ⟨G₁, st₁⟩ := G.allocM (o := setObj #[] 0 (.fresh 0 0 led)) (mo := .sem (setM W [])) rfl (t := s.toks) (fun h' e _ => ORel.sem ⟨rfl, _, e, #[], 0, .fresh 0 0 led, rfl, .empty hlt⟩) rfl
  have hd1 : (ρ ++ [(s.heap.objs.size, s.heap.objs.size)])[σ.length]? = some (s.heap.objs.size, s.heap.objs.size) := by rw [G.len]; simp
  have rv1 := r₁.mono st₁.ge st₁.re
  generalize hs1 : ({ s with heap := s.heap.push (setObj #[] 0 (.fresh 0 0 led)), toks := s.toks } : Shared) = s₁ at G₁ st₁
  have hla1 : s₁.heap.get? la = some (lstObj vs n') := by
    rw [← hs1]; exact Heap.get?_push_of_some _ hla
  have hT : s₁.TypeIs (.ref la) "list" := ⟨_, hla1, rfl⟩
  unfold Builtin.Frozenset.updateFrom Builtin.Frozenset.isAnySet
  refine wpAny_bind (wpAny_bind (wpAny_isInstance hT F.sub_list_set ?_))
  refine wpAny_isInstance hT F.sub_list_frozenset ?_
  refine wpAny_ite_split (fun q => by cases q) (fun _ => ?_)
  refine wpAny_bind (wpAny_typeOf hT ?_)
  refine wpAny_ite_split (fun q => absurd q (by decide)) (fun _ => ?_)
  have C1 := C.in1 (by omega)
  have C2 : COk W (n + 2) sc (c.at c.A.in1.in1) := C1.in1 (by omega)
  have hIt : IterP W (n + 2) (.lst (rowsM rows)) (σ ++ [.sem (setM W [])]) (fun k σ₂ => k = σ.length + 1 ∧ σ₂ = σ ++ [.sem (setM W [])] ++ [.sem (listIt (.lst (rowsM rows)) 0)]) := by
    refine iter_list (l := rowsM rows) rfl ⟨by simp, rfl⟩
  refine wpAny_bind (wpAny_mono (hIt sc (c.at c.A.in1.in1) _ _ loc s₁ _ _ C2 (G₁.at _) rv1) (fun it s₂ q => ?_) fun _ _ x => x)
  obtain ⟨m', σ₂, g₂, ρ₂, ⟨k, rfl, rfl, rfl⟩, st₂, G₂, rit⟩ := q
  have ra2 : VRel g₂ ρ₂ (.obj σ.length) (.ref s.heap.objs.size) := (VRel.obj hd1).mono st₂.ge st₂.re
  refine wpAny_bind (wp_runTo ?_)
  have wS : ∀ p D, wf (σ ++ [.sem (setM W D)] ++ [.sem (listIt (.lst (rowsM rows)) p)]) := fun p D => (hw.app fun k hk => rfl).app fun k hk => by
    simp only [MO.ok, listIt, objSem, MV.ok]; exact ok_rows _ _
  have et : ∀ a b : MO, (σ ++ [a] ++ [b]).take σ.length = σ := fun a b => by rw [List.append_assoc]; exact List.take_left
  refine codeAny_mono (into_ind (n := n + 2) (K := fun σ' => ∃ ex, σ' = σ ++ [.sem (setM W (dedup rows))] ++ [ex]) (by omega) (fun m σ' => ∃ p, m = rows.length - p ∧ p ≤ rows.length ∧ σ' = σ ++ [.sem (setM W (dedup (rows.take p)))] ++ [.sem (listIt (.lst (rowsM rows)) p)]) ?_ rows.length ⟨0, rfl, Nat.zero_le _, rfl⟩ C2 G₂ rit ra2) fun r s₅ hr => ?_
  · rintro m σ' ⟨p, rfl, hp, rfl⟩
    have hll : (σ ++ [MO.sem (setM W (dedup (rows.take p)))]).length = σ.length + 1 := by simp
    have hat : (σ ++ [MO.sem (setM W (dedup (rows.take p)))] ++ [MO.sem (listIt (.lst (rowsM rows)) p)])[σ.length + 1]? = some (.sem (listIt (.lst (rowsM rows)) p)) := by rw [← hll]; exact lookup_last _ _
    refine nxt_list (l := rowsM rows) (by omega) hat rfl (fun mv hm => ?_) (fun hm => ?_)
    · rw [rowsM_get, Option.map_eq_some_iff] at hm
      obtain ⟨r, hr, rfl⟩ := hm
      have hpl := (List.getElem?_eq_some_iff.mp hr).1
      have e1 : rows.take (p + 1) = rows.take p ++ [r] := by rw [List.take_add_one, hr]; rfl
      have hlen := dedup_len (rows.take p)
      rw [List.length_take] at hlen
      rw [set_last2]
      refine ⟨dedup (rows.take p), r, rfl, mid2 _ _ _, by omega, rows.length - (p + 1), by omega, p + 1, rfl, by omega, ?_⟩
      rw [set_mid2, e1, dedup_snoc]
    · have e3 : p = rows.length := by
        rw [rowsM_get, Option.map_eq_none_iff, List.getElem?_eq_none_iff] at hm; omega
      subst e3
      rw [set_last2, List.take_length]
      exact ⟨_, rfl⟩
  obtain ⟨rfl, σ₅, g₅, ρ₅, ⟨ex, rfl⟩, st₅, G₅⟩ := hr
  refine ⟨.none, rfl, wpAny_pure ?_⟩
  have G₅ := G₅.un
  have st15 := (st₁.trans st₂.un).trans st₅.un
  have rd5 : VRel g₅ ρ₅ (.obj σ.length) (.ref s.heap.objs.size) := ra2.mono st₅.ge st₅.re
  obtain ⟨⟨a, a2⟩, hpd, epd⟩ := rd5.obj_inv
  have epd : a = s.heap.objs.size := epd
  subst epd
  have hit : (σ ++ [MO.sem (setM W (dedup rows))] ++ [ex])[σ.length]? = some (.sem (setM W (dedup rows))) := mid2 _ _ _
  have zz := G₅.objs _ _ _ hpd hit
  obtain ⟨es, ep, t, ea, hS⟩ : ∃ es ep t, s₅.heap.get? s.heap.objs.size = some (setObj es ep t) ∧ SetIs W g₅ (dedup rows) es t := by
    cases zz with
    | sem z => obtain ⟨_, o, ho, es, ep, t, rfl, S⟩ := z; exact ⟨es, ep, t, ho, S⟩
  have hk2 : ρ.length ≤ σ.length := by rw [G.len]; omega
  have G₇ := G₅.take (k := σ.length) (fun x mv e => G.locOk hk2 x mv e) (by rw [et]; exact hw _ (Nat.le_refl _))
  rw [et] at G₇
  have st₇ := st15.take (k := σ.length) hk2
  have nin : ∀ p ∈ ρ₅.take σ.length, p.1 ≠ s.heap.objs.size ∧ p.2 ≠ s.heap.objs.size := fun p hp => by
    obtain ⟨j, hj, ej⟩ := List.mem_iff_getElem.mp hp
    have hj' : j < σ.length := by rw [List.length_take] at hj; omega
    have ej' : ρ₅[j]? = some p := by rw [← ej, List.getElem_take, List.getElem?_eq_getElem]
    have := G₅.apart ej' hpd (by omega)
    exact ⟨this.1, this.2.2.1⟩
  have Pa : Priv c g₅ (ρ₅.take σ.length) s.heap.objs.size := by
    have hm := List.mem_of_getElem? hpd
    have P2 := G.fresh fr
    exact ⟨(G₅.gρ _ hm).1, nin, P2.l, P2.cl, P2.k⟩
  obtain ⟨G₈, st₈, e₈, le₈⟩ := G₇.freeze st₇ (fun b o e P q => by rw [q, fr] at e; cases e) Pa ea
  exact ⟨.fz (setF W (dedup rows)), σ, _, _, hK, st₈, G₈, .fz ⟨_, es, ep, t, rfl, e₈, hS.mono le₈⟩⟩)
end
end
section
open PySem PySem.W PyProof.Rows
/-! the order of pairs of texts -/
def ltS (a b : Str) : Bool := decide (a.cps.toList < b.cps.toList)
theorem str_ext {a b : Str} (h : a.cps.toList = b.cps.toList) : a = b := by
  obtain ⟨x⟩ := a
  obtain ⟨y⟩ := b
  have : x = y := Array.toList_inj.mp h
  rw [this]
theorem ltS_irrefl (a : Str) : ltS a a = false := decide_eq_false (List.lt_irrefl _)
theorem ltS_trans {a b c : Str} (h1 : ltS a b = true) (h2 : ltS b c = true) : ltS a c = true := decide_eq_true (List.lt_trans (of_decide_eq_true h1) (of_decide_eq_true h2))
theorem ltS_tot {a b : Str} (h : a ≠ b) (h1 : ltS a b = false) : ltS b a = true := by
  refine decide_eq_true ?_
  have h1 : ¬ a.cps.toList < b.cps.toList := of_decide_eq_false h1
  have h2 : b.cps.toList ≤ a.cps.toList := h1
  by_cases h3 : b.cps.toList < a.cps.toList
  · exact h3
  · have h4 : a.cps.toList ≤ b.cps.toList := h3
    exact absurd (str_ext (List.le_antisymm h4 h2)) h
def rowLt (r r' : Row) : Bool := if r.1 = r'.1 then ltS r.2 r'.2 else ltS r.1 r'.1
theorem rowLt_irrefl (a : Row) : rowLt a a = false := by unfold rowLt; rw [if_pos rfl]; exact ltS_irrefl _
theorem rowLt_trans {a b c : Row} (h1 : rowLt a b = true) (h2 : rowLt b c = true) : rowLt a c = true := by
  unfold rowLt at *
  by_cases e1 : a.1 = b.1
  · rw [if_pos e1] at h1
    by_cases e2 : b.1 = c.1
    · rw [if_pos e2] at h2
      rw [if_pos (e1.trans e2)]
      exact ltS_trans h1 h2
    · rw [if_neg e2] at h2
      rw [if_neg (fun q => e2 (e1.symm.trans q)), e1]
      exact h2
  · rw [if_neg e1] at h1
    by_cases e2 : b.1 = c.1
    · rw [if_neg (fun q => e1 (q.trans e2.symm)), ← e2]
      exact h1
    · rw [if_neg e2] at h2
      have h3 := ltS_trans h1 h2
      rw [if_neg (fun q => by rw [q] at h1; have := ltS_trans h1 h2; rw [ltS_irrefl] at this; cases this)]
      exact h3
theorem rowLt_tot {a b : Row} (h : a ≠ b) (h1 : rowLt a b = false) : rowLt b a = true := by
  unfold rowLt at *
  by_cases e : a.1 = b.1
  · rw [if_pos e] at h1
    rw [if_pos e.symm]
    exact ltS_tot (fun q => h (Prod.ext e q)) h1
  · rw [if_neg e] at h1
    rw [if_neg (Ne.symm e)]
    exact ltS_tot e h1
theorem rowLt_asymm {a b : Row} (h : rowLt a b = true) : rowLt b a = false := by
  cases q : rowLt b a with
  | false => rfl
  | true => have := rowLt_trans h q; rw [rowLt_irrefl] at this; cases this

/-- in rising order -/
def Rising (l : List Row) : Prop := l.Pairwise fun a b => rowLt a b = true
theorem rising_uniq : ∀ {a b : List Row}, a.Perm b → Rising a → Rising b → a = b
  | [], _, p, _, _ => p.nil_eq
  | x :: r, b, p, ha, hb => by
    cases b with
    | nil => exact absurd p.length_eq (by simp)
    | cons y t =>
      have hx : x ∈ y :: t := p.mem_iff.mp (.head _)
      have hy : y ∈ x :: r := p.mem_iff.mpr (.head _)
      have e : x = y := by
        rcases List.mem_cons.mp hx with h | h
        · exact h
        · rcases List.mem_cons.mp hy with h' | h'
          · exact h'.symm
          · have a1 := (List.pairwise_cons.mp ha).1 y h'
            have a2 := (List.pairwise_cons.mp hb).1 x h
            rw [rowLt_asymm a1] at a2; cases a2
      subst e
      rw [rising_uniq (List.Perm.cons_inv p) (List.pairwise_cons.mp ha).2 (List.pairwise_cons.mp hb).2]

/-! the sort's questions -/
def closeF (facts : List (Nat × Nat)) : List (Nat × Nat) := facts ++ (facts.flatMap fun p => facts.filterMap fun q => if p.2 == q.1 then some (p.1, q.2) else none)
def adjIn (facts : List (Nat × Nat)) : List Nat → Bool
  | a :: b :: r => facts.contains (a, b) && adjIn facts (b :: r)
  | _ => true
def leafOk (n : Nat) (facts : List (Nat × Nat)) (p : Array Nat) : Bool :=
  (p.toList.isPerm (List.range n) && adjIn facts p.toList) || (closeF (closeF facts)).any fun q => q.1 == q.2
def chk (n : Nat) : KasT (Array Nat) → List (Nat × Nat) → Bool
  | .ret p, facts => leafOk n facts p
  | .ask i j k, facts => decide (i < n) && decide (j < n) && (i != j) && (
      if facts.contains (i, j) then chk n (k true) facts
      else if facts.contains (j, i) then chk n (k false) facts
      else chk n (k true) ((i, j) :: facts) && chk n (k false) ((j, i) :: facts))
theorem chk2 : chk 2 (kas_sort 2) [] = true := by decide +kernel
theorem chk3 : chk 3 (kas_sort 3) [] = true := by decide +kernel
theorem chk4 : chk 4 (kas_sort 4) [] = true := by decide +kernel
theorem chk5 : chk 5 (kas_sort 5) [] = true := by decide +kernel

section
variable {n : Nat} {lt : Nat → Nat → Bool}
def Facts (lt : Nat → Nat → Bool) (facts : List (Nat × Nat)) : Prop := ∀ q ∈ facts, lt q.1 q.2 = true
theorem Facts.close (tr : ∀ {a b c}, lt a b = true → lt b c = true → lt a c = true) {facts : List (Nat × Nat)} (h : Facts lt facts) : Facts lt (closeF facts) := fun q hq => by
  rcases List.mem_append.mp hq with hq | hq
  · exact h q hq
  · obtain ⟨p, hp, hq⟩ := List.mem_flatMap.mp hq
    obtain ⟨p', hp', e⟩ := List.mem_filterMap.mp hq
    split at e
    · rename_i he
      cases e
      have he := eq_of_beq he
      exact tr (h p hp) (by rw [he]; exact h p' hp')
    · cases e
def Chain (lt : Nat → Nat → Bool) : List Nat → Prop
  | a :: b :: r => lt a b = true ∧ Chain lt (b :: r)
  | _ => True
theorem adj_chain {facts : List (Nat × Nat)} (h : Facts lt facts) : ∀ l, adjIn facts l = true → Chain lt l
  | [], _ => trivial
  | [_], _ => trivial
  | a :: b :: r, hl => by
    simp only [adjIn, Bool.and_eq_true] at hl
    exact ⟨h _ (List.contains_iff_mem.mp hl.1), adj_chain h _ hl.2⟩
theorem chk_run {cmp : Nat → Nat → (Bool → Shared → Prop) → Shared → Prop} {Q : Array Nat → Shared → Prop} {s : Shared} (ir : ∀ a, lt a a = false) (tr : ∀ {a b c}, lt a b = true → lt b c = true → lt a c = true)
    (tot : ∀ {i j}, i < n → j < n → i ≠ j → lt i j = false → lt j i = true) (hc : ∀ i j, i < n → j < n → i ≠ j → ∀ C : Bool → Shared → Prop, C (lt i j) s → cmp i j C s)
    (hQ : ∀ p : Array Nat, p.toList.Perm (List.range n) → Chain lt p.toList → Q p s) : ∀ (t : KasT (Array Nat)) (facts : List (Nat × Nat)), chk n t facts = true → Facts lt facts → t.kasWp cmp Q s
  | .ret p, facts, hk, hf => by
    simp only [chk, leafOk, Bool.or_eq_true, Bool.and_eq_true] at hk
    rcases hk with ⟨h1, h2⟩ | h
    · exact hQ p (List.isPerm_iff.mp h1) (adj_chain hf _ h2)
    · obtain ⟨q, hq, e⟩ := List.any_eq_true.mp h
      have := (Facts.close (lt := lt) tr (Facts.close (lt := lt) tr hf)) q hq
      rw [eq_of_beq e, ir] at this; cases this
  | .ask i j k, facts, hk, hf => by
    simp only [chk, Bool.and_eq_true, decide_eq_true_eq, bne_iff_ne, ne_eq] at hk
    obtain ⟨⟨⟨hi, hj⟩, hne⟩, hk⟩ := hk
    refine hc i j hi hj hne _ ?_
    show (k (lt i j)).kasWp cmp Q s
    by_cases c1 : facts.contains (i, j) = true
    · rw [if_pos c1] at hk
      have e : lt i j = true := hf (i, j) (List.contains_iff_mem.mp c1)
      rw [e]
      exact chk_run ir tr tot hc hQ (k true) facts hk hf
    · rw [if_neg c1] at hk
      by_cases c2 : facts.contains (j, i) = true
      · rw [if_pos c2] at hk
        have e : lt j i = true := hf (j, i) (List.contains_iff_mem.mp c2)
        have e2 : lt i j = false := by
          cases q : lt i j with
          | false => rfl
          | true => have := tr q e; rw [ir] at this; cases this
        rw [e2]
        exact chk_run ir tr tot hc hQ (k false) facts hk hf
      · rw [if_neg c2] at hk
        rw [Bool.and_eq_true] at hk
        cases q : lt i j with
        | true =>
          exact chk_run ir tr tot hc hQ (k true) _ hk.1 fun x hx => by
            rcases List.mem_cons.mp hx with rfl | hx
            · exact q
            · exact hf x hx
        | false =>
          exact chk_run ir tr tot hc hQ (k false) _ hk.2 fun x hx => by
            rcases List.mem_cons.mp hx with rfl | hx
            · exact tot hi hj hne q
            · exact hf x hx
theorem chk_all {n : Nat} (h2 : 2 ≤ n) (h5 : n ≤ 5) : chk n (kas_sort n) [] = true := by
  match n, h2, h5 with
  | 2, _, _ => exact chk2
  | 3, _, _ => exact chk3
  | 4, _, _ => exact chk4
  | 5, _, _ => exact chk5
end
/-- the rows in the order that a sort gave -/
theorem chain_rising {rows : List Row} : ∀ l : List Nat, Chain (fun i j => rowLt (rows.getD i default) (rows.getD j default)) l → Rising (l.map fun i => rows.getD i default)
  | [], _ => .nil
  | [_], _ => List.pairwise_singleton _ _
  | a :: b :: r, ⟨h1, h2⟩ => by
    have ih := chain_rising (b :: r) h2
    rw [List.map_cons]
    refine List.pairwise_cons.mpr ⟨fun x hx => ?_, ih⟩
    rw [List.map_cons] at hx ih
    rcases List.mem_cons.mp hx with rfl | hx
    · exact h1
    · exact rowLt_trans h1 ((List.pairwise_cons.mp ih).1 x hx)
theorem map_range_getD {α : Type} [Inhabited α] (l : List α) : (List.range l.length).map (fun i => l.getD i default) = l := by
  apply List.ext_getElem
  · simp
  · intro i h1 h2
    simp [h2]
end
section
open PySem PySem.W PyProof.Rows
inductive RelP (P : Row → Addr → Prop) : List Row → List Value → Prop
  | nil : RelP P [] []
  | cons {r b rs vs} : P r b → RelP P rs vs → RelP P (r :: rs) (.ref b :: vs)

section
variable {W : Wd} {A : Around} {E : Value → Shared → Prop} {s : Shared} {h h' : Heap} {rows : List Row} {vs : List Value} {P P' : Row → Addr → Prop}

theorem RelP.length (R : RelP P rows vs) : vs.length = rows.length := by
  induction R with
  | nil => rfl
  | cons _ _ ih => simp [ih]
theorem RelP.keep (R : RelP P rows vs) (k : ∀ r b, P r b → P' r b) : RelP P' rows vs := by
  induction R with
  | nil => exact .nil
  | cons x _ ih => exact .cons (k _ _ x) ih
theorem RelP.get (R : RelP P rows vs) {i : Nat} (hi : i < rows.length) : ∃ b, vs.getD i .none = .ref b ∧ P (rows.getD i default) b := by
  induction R generalizing i with
  | nil => simp at hi
  | cons x _ ih =>
    cases i with
    | zero => exact ⟨_, rfl, x⟩
    | succ i => exact ih (by simpa using hi)
theorem RelP.pick (R : RelP P rows vs) : ∀ (l : List Nat), (∀ i ∈ l, i < rows.length) → RelP P (l.map fun i => rows.getD i default) (l.map fun i => vs.getD i .none)
  | [], _ => .nil
  | i :: l, hl => by
    obtain ⟨b, e, T⟩ := R.get (hl i (.head _))
    rw [List.map_cons, List.map_cons, e]
    exact .cons T (R.pick l fun j hj => hl j (.tail _ hj))
theorem TupAt.open' {r : Row} {b : Addr} (T : TupAt W h r b) : ∃ o items n t1 t2, h.get? b = some o ∧ o.cls = .type "tuple" ∧ o.data = .seq items n ∧ items.toList = [.str r.1 t1, .str r.2 t2] := by
  obtain ⟨o, items, n, ho, hc, hd, hi⟩ := T
  generalize hl : items.toList = l at hi
  cases hi with
  | cons h1 hs =>
  cases hs with
  | cons h2 hs =>
    cases hs
    obtain ⟨t1, rfl⟩ := Value.isStrOf_shape h1
    obtain ⟨t2, rfl⟩ := Value.isStrOf_shape h2
    exact ⟨o, items, n, t1, t2, ho, hc, hd, hl⟩

theorem ask_ok {r r' : Row} {b b' : Addr} {Q : Bool → Shared → Prop} (T : TupAt W s.heap r b) (T' : TupAt W s.heap r' b') (hq : Q (rowLt r r') s) : wpAny (Mo W) A (keyLt' (tuples' true) (.ref b) (.ref b')) Q E s := by
  obtain ⟨o, items, n, t1, t2, ho, _, hd, hi⟩ := T.open'
  obtain ⟨o', items', n', t1', t2', ho', _, hd', hi'⟩ := T'.open'
  have hsz : items.size = 2 := by rw [← Array.length_toList, hi]; rfl
  have hsz' : items'.size = 2 := by rw [← Array.length_toList, hi']; rfl
  refine kat_lt ho hd ho' hd' ?_
  rw [hi, hi', hsz, hsz']
  show KatLex _ _ _ _ _ _ [(Value.str r.1 t1, Value.str r'.1 t1'), (Value.str r.2 t2, Value.str r'.2 t2')] 0 s
  refine kat_cons (wpAny_eqBool_str ?_)
  refine kat_go (fun e => ?_) (fun e => ?_)
  · have e : r.1 = r'.1 := of_decide_eq_true e
    refine kat_yes (kat_cons (wpAny_eqBool_str ?_))
    refine kat_go (fun e2 => ?_) (fun e2 => ?_)
    · have e2 : r.2 = r'.2 := of_decide_eq_true e2
      refine kat_yes (kat_nil ?_)
      have : rowLt r r' = false := by rw [show r = r' from Prod.ext e e2]; exact rowLt_irrefl _
      rw [this] at hq
      exact hq
    · refine kat_no (kat_one _ _ (lt_str ?_))
      unfold rowLt at hq
      rw [if_pos e] at hq
      exact hq
  · have e : ¬ r.1 = r'.1 := of_decide_eq_false e
    refine kat_no (oneLt_str ?_)
    unfold rowLt at hq
    rw [if_neg e] at hq
    exact hq

theorem kind_ok {Q : SortKind → Shared → Prop} (R : RelP (TupAt W s.heap) rows vs) (hne : 0 < rows.length) (hq : Q (tuples' true) s) : wpAny (Mo W) A (keyKind' vs.toArray) Q E s := by
  have key : ∀ {rows : List Row} {vs : List Value}, RelP (TupAt W s.heap) rows vs → ∃ fs, KatTups s.heap vs fs ∧ fs.length = rows.length ∧ ∀ v ∈ fs, ∃ x t, v = Value.str x t := by
    intro rows vs R
    induction R with
    | nil => exact ⟨[], .nil, rfl, fun v hv => by cases hv⟩
    | cons T _ ih =>
      obtain ⟨fs, k, l, a⟩ := ih
      obtain ⟨o, items, n, t1, t2, ho, hc, hd, hi⟩ := T.open'
      refine ⟨_ :: fs, .cons ho hc hd (by rw [← Array.getElem?_toList, hi]; rfl) k, by simp [l], fun v hv => ?_⟩
      rcases List.mem_cons.mp hv with rfl | hv
      · exact ⟨_, _, rfl⟩
      · exact a v hv
  obtain ⟨fs, k, l, a⟩ := key R
  refine kat_kind (T := .type "str") k (by omega) (fun v hv => ?_) rfl ?_
  · obtain ⟨x, t, rfl⟩ := a v hv
    exact .now
  · exact hq

theorem wp_list_sort {a : Addr} {n : Nat} {Q : PySem.Fin → Shared → Prop} (ho : s.heap.get? a = some (seqObj "list" vs.toArray n)) (R : RelP P rows vs) (hPT : ∀ r b, P r b → TupAt W s.heap r b) (h5 : rows.length ≤ 5) (nd : rows.Nodup)
    (hP : ∀ h' vs' L c, (∀ b o, b ≠ a → s.heap.get? b = some o → h'.get? b = some o) → h'.get? a = some (seqObj "list" vs'.toArray c) → RelP P L vs' → L.Perm rows → Rising L → Q (.done (.ret .none)) { s with heap := h' }) :
    wpAny (Mo W) A (Builtin.«list.sort» ⟨[.ref a], []⟩) Q E s := by
  have hlen := R.length
  have ha : a < s.heap.objs.size := Heap.lt_size ho
  have s1 := Heap.SameBut.update s.heap a (Obj.mapSeq fun _ => (#[] : Array Value))
  obtain ⟨e1, ho1⟩ : ∃ e1, (s.heap.update a (Obj.mapSeq fun _ => (#[] : Array Value))).get? a = some (seqObj "list" #[] e1) := ⟨_, get?_update_seq ho fun _ => #[]⟩
  have tne : ∀ {r b}, TupAt W s.heap r b → b ≠ a := fun T e => by
    obtain ⟨o, _, _, ho', hc, _⟩ := T
    rw [e, ho] at ho'; cases ho'; simp at hc
  rw [list_sort_plain]
  refine wpAny_bind (listItems_at ho rfl ?_)
  refine wpAny_bind (listUpdate_at ho rfl ?_ (by rw [List.size_toArray, sizeLine_eq]; omega) (Nat.zero_le _))
  refine wpAny_bind (seqEpoch_at ho1 rfl ?_)
  refine wpAny_bind (wpAny_newTuple ?_ (by show vs.length ≤ _; rw [sizeLine_eq]; omega))
  refine wpAny_bind (wpAny_newList ?_ (Nat.zero_le _))
  refine wpAny_holding ?_
  show wpAny (Mo W) A _ Q E { s with heap := ((s.heap.update a (Obj.mapSeq fun _ => (#[] : Array Value))).push (seqObj "tuple" vs.toArray 0)).push (seqObj "list" #[] 0) }
  have keep3 : ∀ b o, b ≠ a → s.heap.get? b = some o → (((s.heap.update a (Obj.mapSeq fun _ => (#[] : Array Value))).push (seqObj "tuple" vs.toArray 0)).push (seqObj "list" #[] 0)).get? b = some o := fun b o hb e =>
    Heap.get?_push_of_some _ (Heap.get?_push_of_some _ ((s1.2 b hb).trans e))
  have ho3 : (((s.heap.update a (Obj.mapSeq fun _ => (#[] : Array Value))).push (seqObj "tuple" vs.toArray 0)).push (seqObj "list" #[] 0)).get? a = some (seqObj "list" #[] e1) := Heap.get?_push_of_some _ (Heap.get?_push_of_some _ ho1)
  generalize hh3 : ((s.heap.update a (Obj.mapSeq fun _ => (#[] : Array Value))).push (seqObj "tuple" vs.toArray 0)).push (seqObj "list" #[] 0) = h3 at keep3 ho3 ⊢
  have R3 : RelP (TupAt W h3) rows vs := R.keep fun r b p => by
    have T := hPT r b p
    have hb := tne T
    obtain ⟨o, items, n, ho', x⟩ := T
    exact ⟨o, items, n, keep3 b o hb ho', x⟩
  have fin : ∀ (out : List Value) (L : List Row), RelP P L out → L.Perm rows → Rising L → out.length ≤ 5 → wpAny (Mo W) A (do
      let touched := (← seqEpoch a) != e1
      Builtin.List.listUpdate (.ref a) fun _ => out.toArray
      if touched then rule "list.sort.modified"; raiseError "ValueError" "list modified during sort"
      ret .none) Q E { s with heap := h3 } := by
    intro out L RL pL ri ol
    refine wpAny_bind (seqEpoch_at ho3 rfl ?_)
    refine wpAny_bind (listUpdate_at ho3 rfl ?_ (Nat.zero_le _) (by rw [List.size_toArray, sizeLine_eq]; omega))
    simp only [bne_self_eq_false, Bool.false_eq_true, if_false]
    obtain ⟨c2, hc2⟩ : ∃ c2, (h3.update a (Obj.mapSeq fun _ => out.toArray)).get? a = some (seqObj "list" out.toArray c2) := ⟨_, get?_update_seq ho3 fun _ => out.toArray⟩
    have s2 := Heap.SameBut.update h3 a (Obj.mapSeq fun _ => out.toArray)
    exact wpAny_pure (hP _ out L c2 (fun b o hb e => (s2.2 b hb).trans (keep3 b o hb e)) hc2 RL pL ri)
  by_cases h2 : vs.length < 2
  · have hs2 : vs.toArray.size < 2 := by rw [List.size_toArray]; exact h2
    rw [if_pos hs2, if_pos hs2]
    refine wpAny_bind (wpAny_pure ?_)
    refine wpAny_bind (wpAny_pure ?_)
    have e : ((arrOf (SortSt.mk' general' (vs.toArray.zip vs.toArray) #[] 7 none)).map (·.2)) = vs.toArray := by
      show ((vs.toArray.zip vs.toArray).map (·.2)) = _
      apply Array.toList_inj.mp
      rw [Array.toList_map, Array.toList_zip]
      have : ∀ l : List Value, (l.zip l).map (·.2) = l := by
        intro l
        induction l with
        | nil => rfl
        | cons x l ih => simp [ih]
      exact this vs
    dsimp only
    rw [e]
    refine fin vs rows R (.refl _) ?_ (by omega)
    match rows, hlen with
    | [], _ => exact .nil
    | [r], _ => exact List.pairwise_singleton _ _
    | _ :: _ :: _, hl => rw [hl] at h2; simp at h2; omega
  · have hs2 : ¬ vs.toArray.size < 2 := by rw [List.size_toArray]; exact h2
    rw [if_neg hs2, if_neg hs2]
    refine wpAny_bind (kind_ok (s := { s with heap := h3 }) R3 (by omega) ?_)
    have ne_of : ∀ {i j : Nat}, i < rows.length → j < rows.length → i ≠ j → rows.getD i default ≠ rows.getD j default := fun {i j} hi hj hne e => by
      have hpw := List.pairwise_iff_getElem.mp nd
      simp only [List.getD_eq_getElem?_getD] at e
      rw [List.getElem?_eq_getElem hi, List.getElem?_eq_getElem hj] at e
      have e : rows[i] = rows[j] := e
      rcases Nat.lt_or_gt_of_ne hne with q | q
      · exact hpw i j hi hj q e
      · exact hpw j i hj hi q e.symm
    have asks : (kas_sort vs.length).kasWp (kas_ask W.prog W.w A (tuples' true) vs) (fun p s' => s' = { s with heap := h3 } ∧ p.toList.Perm (List.range rows.length) ∧ Chain (fun i j => rowLt (rows.getD i default) (rows.getD j default)) p.toList) { s with heap := h3 } := by
      rw [hlen]
      refine chk_run (lt := fun i j => rowLt (rows.getD i default) (rows.getD j default)) (n := rows.length) (fun _ => rowLt_irrefl _) (fun x y => rowLt_trans x y) (fun hi hj hne h => rowLt_tot (ne_of hi hj hne) h) (fun i j hi hj hne C hC => ?_) (fun p hp hc => ⟨rfl, hp, hc⟩) _ [] (chk_all (by omega) (by omega)) (fun q hq => by cases hq)
      obtain ⟨b, eb, Tb⟩ := R3.get hi
      obtain ⟨b', eb', Tb'⟩ := R3.get hj
      unfold kas_ask
      rw [eb, eb']
      exact ask_ok (s := { s with heap := h3 }) Tb Tb' hC
    refine wpAny_bind (wpAny_mono (kat_run (Q := fun st' s' => ∃ p : Array Nat, p.size = vs.length ∧ arrOf st' = p.map (kas_item (vs.toArray.zip vs.toArray)) ∧ failedOf st' = none ∧ s' = { s with heap := h3 } ∧ p.toList.Perm (List.range rows.length) ∧ Chain (fun i j => rowLt (rows.getD i default) (rows.getD j default)) p.toList)
      rfl (by omega) (by omega) (fun p' st' s' a1 a2 a3 a4 => ⟨p', a1, a2, a3, a4⟩) asks) ?_ fun _ _ e => e)
    rintro ⟨⟨⟩, st'⟩ s' ⟨p, hp, har, hf, rfl, hperm, hch⟩
    dsimp only
    rw [kat_snds rfl har, hf]
    have hmem : ∀ i ∈ p.toList, i < rows.length := fun i hi => List.mem_range.mp (hperm.mem_iff.mp hi)
    have RL := R.pick p.toList hmem
    have pL : (p.toList.map fun i => rows.getD i default).Perm rows := by
      have := hperm.map fun i => rows.getD i default
      rw [map_range_getD] at this
      exact this
    exact fin _ _ RL pL (chain_rising _ hch) (by rw [List.length_map, Array.length_toList, hp]; omega)
end
end
section
open PySem PySem.W PyProof.Rows
theorem entry_set_iter : entryFor table "set.__iter__" = some Builtin.«frozenset.__iter__» :=
  entryFor_alias (id' := "frozenset.__iter__") (by kernel_rfl) rfl (by decide +kernel) (by kernel_rfl)
theorem owner_set_iterator : Manifest.owners.lookup (String.ofList ['r', 'o', 't', 'a', 'r', 'e', 't', 'i', '_', 't', 'e', 's'].reverse) = some Manifest.sig_set_iterator := by kernel_rfl
theorem slot_set_iterator_next : Slot "set_iterator" "__next__" "set_iterator.__next__" :=
  .of (owner := "set_iterator") (n := "__next__") (by rw [typeLookup_type, builtinLookup_eq_fast]; kernel_rfl) (by decide +kernel) (by decide +kernel) (by decide +kernel)
    (by first | exact .inl (by decide +kernel) | exact .inr (by decide +kernel)) (by rw [isSubtype_type]; kernel_rfl)
theorem entry_set_iterator_next : entryFor table "set_iterator.__next__" = some Builtin.«set_iterator.__next__» := entryFor_of_tree (by kernel_rfl)
theorem args_set_iterator_next (a : Value) : argsOk "set_iterator.__next__" ⟨[a], []⟩ := by
  unfold argsOk; rw [signature?_of (id := "set_iterator.__next__") (n := ['_', '_', 't', 'x', 'e', 'n', '_', '_']) (o := ['r', 'o', 't', 'a', 'r', 'e', 't', 'i', '_', 't', 'e', 's']) (by kernel_rfl) owner_set_iterator]; kernel_rfl
end
section
open PySem PySem.W PyProof.Rows
abbrev sitObj (first : Value) (i : Int) (a : Addr) (n ep : Int) : Obj := { cls := .type "set_iterator", data := .fields #[first, rawInt i, .ref a, rawInt n, rawInt ep] }
/-- an iterator of a set: ord is what it gives -/
def SIt (W : Wd) (h : Heap) (it a : Addr) (es : Array (Int × Value)) (ep : Nat) (t : SetTable) (ord : List (Int × Value)) (i : Nat) : Prop :=
  ∃ first, h.get? it = some (sitObj first i a es.size ep) ∧
    ((W.w.params.followText "set-order" = true ∧ (∃ slot : Nat, first = rawInt slot) ∧ ord = (pickOrder (W.w.params.setOrder a ep) es).toList) ∨
     (W.w.params.followText "set-order" = false ∧ es.size ≤ 1 ∧ t.led = true ∧ ord = es.toList ∧ ∃ slot : Nat, first = rawInt slot ∧ SetTable.below t.place slot = i) ∨
     (∃ (T : Addr) (L : List Nat) (n : Nat), first = .ref T ∧ h.get? T = some (tupObj (L.map fun (x : Nat) => rawInt x) n) ∧ (∀ x ∈ L, x < es.size) ∧ ord = L.map fun x => es.getD x (0, .none)))

section
variable {W : Wd} {A : Around} {E : Value → Shared → Prop} {s : Shared} {t : SetTable} {es : Array (Int × Value)} {ep : Nat} {a b it : Addr} {D : List Row} {ord : List (Int × Value)} {i : Nat}

theorem below0 (xs : Array Nat) (h : xs.size ≤ 1) : SetTable.below xs 0 = 0 := by
  match hx : xs.size, h with
  | 0, _ => unfold SetTable.below; rw [hx]; rfl
  | 1, _ =>
    unfold SetTable.below
    rw [hx]
    simp [SetTable.below.go]
theorem below1 (j : Nat) : SetTable.below #[j] (j + 1) = 1 := by
  unfold SetTable.below
  simp [SetTable.below.go]

theorem wp_set_iter {Q : Value → Shared → Prop} (ho : s.heap.get? a = some (setObj es ep t)) (S : SetIs W s.heap D es t) (h5 : D.length ≤ 5)
    (h : ∀ it ord s', (∀ b o, s.heap.get? b = some o → s'.heap.get? b = some o) → s'.gens = s.gens → s'.os = s.os → s.heap.get? it = none → SIt W s'.heap it a es ep t ord 0 → ord.Perm es.toList → Q (.ref it) s') : wpAny (Mo W) A (pyIter (.ref a)) Q E s := by
  have hT : s.TypeIs (.ref a) "set" := ⟨_, ho, rfl⟩
  refine wpAny_pyIter_slot hT F.slot_set_iter (wpAny_call_entry F.slot_set_iter hT entry_set_iter ?_ (F.args_set_iter_1 _))
  unfold Builtin.«frozenset.__iter__» Builtin.Frozenset.slot0 slotArgs
  simp only [List.isEmpty_nil, Bool.not_true, Bool.false_eq_true, ↓reduceIte, bind_assoc, List.length_nil, bne_self_eq_false]
  unfold Builtin.Frozenset.addrOf Builtin.Frozenset.sizeOf
  refine wpAny_bind (wpAny_pure ?_)
  try dsimp only
  refine wpAny_bind (wpAny_pure ?_)
  refine wpAny_bind (wpAny_bind (wpAny_setEntries_of ho rfl S.fits (wpAny_pure ?_)))
  unfold setDrawn setsByText
  refine wpAny_bind (wpAny_bind (wpAny_setState_of ho rfl S.fits ?_))
  dsimp only
  refine wpAny_bind (wpAny_bind (wpAny_askSetting (wpAny_pure ?_)))
  refine wpAny_pure ?_
  have tail : ∀ (s₁ : Shared) (first : Value) (ord : List (Int × Value)), (∀ b o, s.heap.get? b = some o → s₁.heap.get? b = some o) → s₁.gens = s.gens → s₁.os = s.os → ord.Perm es.toList →
      (∀ h' : Heap, (∀ b o, s₁.heap.get? b = some o → h'.get? b = some o) → ((W.w.params.followText "set-order" = true ∧ (∃ slot : Nat, first = rawInt slot) ∧ ord = (pickOrder (W.w.params.setOrder a ep) es).toList) ∨
     (W.w.params.followText "set-order" = false ∧ es.size ≤ 1 ∧ t.led = true ∧ ord = es.toList ∧ ∃ slot : Nat, first = rawInt slot ∧ SetTable.below t.place slot = 0) ∨
     (∃ (T : Addr) (L : List Nat) (n : Nat), first = .ref T ∧ h'.get? T = some (tupObj (L.map fun (x : Nat) => rawInt x) n) ∧ (∀ x ∈ L, x < es.size) ∧ ord = L.map fun x => es.getD x (0, .none)))) →
      wpAny (Mo W) A.in1 (do
        let e ← setEpoch a
        let r ← newFields "set_iterator" [first, rawInt 0, Value.ref a, rawInt es.size, rawInt e]
        ret r) (fun fin s' => ∃ v, fin = Fin.done (Flow.ret v) ∧ ∃ T' r, s'.TypeIs v T' ∧ typeLookup (Value.type T') (Str.ofString "__next__") = pure (some r) ∧ Q v s') E s₁ := by
    intro s₁ first ord k kg ko hp hc
    refine wpAny_bind (wpAny_setEpoch_of (k _ _ ho) rfl S.fits ?_)
    unfold newFields
    refine wpAny_bind (wpAny_newObj_type ?_ (by show (5 : Nat) ≤ _; rw [sizeLine_eq]; omega))
    have hn : (s₁.heap.push (sitObj first 0 a es.size ep)).get? s₁.heap.objs.size = some (sitObj first 0 a es.size ep) := Heap.get?_push_size _ rfl
    have kk : ∀ b o, s₁.heap.get? b = some o → (s₁.heap.push (sitObj first 0 a es.size ep)).get? b = some o := fun b o e => Heap.get?_push_of_some _ e
    refine wpAny_pure ⟨_, rfl, "set_iterator", _, ⟨_, hn, rfl⟩, slot_set_iterator_next.lookup, ?_⟩
    refine h _ ord _ (fun b o e => kk b o (k b o e)) kg ko ?_ ⟨first, hn, hc _ kk⟩ hp
    cases q : s.heap.get? s₁.heap.objs.size with
    | none => rfl
    | some o =>
      have := k _ _ q
      rw [Heap.get?_none_of_le (Nat.le_refl _)] at this; cases this
  refine wpAny_ite_split (fun hd => ?_) (fun hd => ?_)
  · have hd : (!W.w.params.followText "set-order" && (!t.plain && decide (es.size > 1))) = true := hd
    refine wpAny_bind (wp_drawOrder _ _ _ (by simp) fun ys s₁ hy S1 => ?_)
    refine wpAny_bind (wpAny_newTuple ?_ (by rw [List.length_map, hy.length_eq, List.length_range, S.size, sizeLine_eq]; omega))
    have hn : (s₁.heap.push (tupObj (ys.map fun (x : Nat) => rawInt x) 0)).get? s₁.heap.objs.size = some (tupObj (ys.map fun (x : Nat) => rawInt x) 0) := Heap.get?_push_size _ rfl
    refine tail _ _ (ys.map fun x => es.getD x (0, .none)) (fun b o e => ?_) S1.2.1 S1.2.2 ?_ (fun h' k => .inr (.inr ⟨_, ys, 0, rfl, k _ _ hn, fun x hx => List.mem_range.mp (hy.mem_iff.mp hx), rfl⟩))
    · exact Heap.get?_push_of_some _ (show s₁.heap.get? b = some o by rw [S1.1]; exact e)
    · refine (hy.map _).trans ?_
      have : (List.range es.size).map (fun x => es.getD x (0, Value.none)) = es.toList := by
        apply List.ext_getElem
        · simp
        · intro i h1 h2
          have : i < es.size := by simpa using h1
          simp [Array.getD, this]
      rw [this]
  · have hd : ¬ (!W.w.params.followText "set-order" && (!t.plain && decide (es.size > 1))) = true := hd
    refine wpAny_bind (wpAny_pure ?_)
    cases hft : W.w.params.followText "set-order" with
    | true => exact tail s (rawInt 0) (pickOrder (W.w.params.setOrder a ep) es).toList (fun _ _ e => e) rfl rfl (pick_perm _ _) (fun h' k => .inl ⟨hft, ⟨0, rfl⟩, rfl⟩)
    | false =>
      rw [hft] at hd
      have h1 : es.size ≤ 1 := by
        cases hpl : t.plain with
        | true => have := S.pl hpl; omega
        | false => rw [hpl] at hd; simp at hd; omega
      have hps : t.place.size ≤ 1 := by
        have := S.fits
        unfold SetTable.fits at this
        simp only [Bool.and_eq_true, beq_iff_eq] at this
        omega
      exact tail s (rawInt 0) es.toList (fun _ _ e => e) rfl rfl (.refl _) (fun h' k => .inr (.inl ⟨hft, h1, S.led hft, rfl, 0, rfl, below0 _ hps⟩))
end
end
section
open PySem PySem.W PyProof.Rows
section
variable {W : Wd} {A : Around} {E : Value → Shared → Prop} {s : Shared} {t : SetTable} {es : Array (Int × Value)} {ep : Nat} {a b it : Addr} {D : List Row} {ord : List (Int × Value)} {i : Nat}

theorem set_first (h : Heap) {first : Value} {x n e : Int} (f : Value) (hit : h.get? it = some (sitObj first x a n e)) : (h.update it (Obj.mapFields (·.setIfInBounds 0 f))).get? it = some (sitObj f x a n e) := by
  rw [Heap.get?_update_self _ hit rfl]; rfl
theorem set_count (h : Heap) {first : Value} {x n e y : Int} (hit : h.get? it = some (sitObj first x a n e)) : (h.update it (Obj.mapFields (·.setIfInBounds 1 (rawInt y)))).get? it = some (sitObj first y a n e) := by
  rw [Heap.get?_update_self _ hit rfl]; rfl

theorem setNext_text {Q : Option (Value × Nat) → Shared → Prop} {slot : Nat} (hft : W.w.params.followText "set-order" = true) (ho : s.heap.get? a = some (setObj es ep t)) (hf : t.fits es.size = true)
    (h : Q (((pickOrder (W.w.params.setOrder a ep) es)[i]?).map fun e => (e.2, slot)) s) : wpAny (Mo W) A (setNext a slot i ep) Q E s := by
  unfold setNext
  refine wpAny_bind (wpAny_setState_of ho rfl hf ?_)
  dsimp only
  unfold setsByText
  refine wpAny_bind (wpAny_bind (wpAny_askSetting (wpAny_pure ?_)))
  have hft' : ({ program := (model W.prog W.w).prog, params := (model W.prog W.w).w.params } : Setting).params.followText "set-order" = true := hft
  rw [hft']
  simp only [if_true, bne_self_eq_false, Bool.false_eq_true, if_false]
  unfold setWalk
  refine wpAny_bind (wpAny_bind (wpAny_setState_of ho rfl hf ?_))
  dsimp only
  unfold setsByText
  refine wpAny_bind (wpAny_bind (wpAny_askSetting (wpAny_pure ?_)))
  rw [hft']
  simp only [if_true]
  refine wpAny_bind (wpAny_askSetting (wpAny_pure ?_))
  exact wpAny_pure h
theorem setNext_small {Q : Option (Value × Nat) → Shared → Prop} {slot : Nat} (hft : W.w.params.followText "set-order" = false) (h1 : es.size ≤ 1) (hl : t.led = true) (ho : s.heap.get? a = some (setObj es ep t)) (hf : t.fits es.size = true)
    (h : Q (match es[SetTable.below t.place slot]?, t.place[SetTable.below t.place slot]? with
    | some (_, x), some j => some (x, j + 1)
    | _, _ => none) s) : wpAny (Mo W) A (setNext a slot i ep) Q E s := by
  unfold setNext
  refine wpAny_bind (wpAny_setState_of ho rfl hf ?_)
  dsimp only
  unfold setsByText
  refine wpAny_bind (wpAny_bind (wpAny_askSetting (wpAny_pure ?_)))
  have hft' : ({ program := (model W.prog W.w).prog, params := (model W.prog W.w).w.params } : Setting).params.followText "set-order" = false := hft
  rw [hft']
  simp only [Bool.false_eq_true, if_false]
  refine wpAny_ite_split (fun hd => ?_) (fun _ => ?_)
  · have hd : (!t.plain && decide (es.size > 1)) = true := hd
    simp at hd; omega
  · refine wpAny_bind ?_
    show wpAny (Mo W) A (if (!t.led && !es.isEmpty) = true then unsupported "set:maker-not-led" else pure ()) _ E s
    rw [hl]
    simp only [Bool.not_true, Bool.false_and, Bool.false_eq_true, if_false]
    exact wpAny_pure (wpAny_pure h)

theorem stop_here {α : Type} {A₁ : Around} {F : Value → Shared → Prop} {Q : α → Shared → Prop} (hh : A₁.handled = none)
    (hF : ∀ h' e, (∀ b o, s.heap.get? b = some o → h'.get? b = some o) → (∃ o, h'.get? e = some o ∧ o.cls = .type "StopIteration") → F (.ref e) { s with heap := h' }) :
    wpAny (Mo W) A₁ (newExc (.type "StopIteration") [] >>= fun e => (raiseNew e : Sem α)) Q F s := stop_raise hh hF

theorem wp_set_next {Q : Option Value → Shared → Prop} (hh : A.handled = none) (ho : s.heap.get? a = some (setObj es ep t)) (hf : t.fits es.size = true) (I : SIt W s.heap it a es ep t ord i)
    (h1 : ∀ e h', ord[i]? = some e → Heap.ExtBut it s.heap h' → SIt W h' it a es ep t ord (i + 1) → Q (some e.2) { s with heap := h' })
    (h2 : ∀ h', ord[i]? = none → Heap.ExtBut it s.heap h' → Q none { s with heap := h' }) : wpAny (Mo W) A (pyNext (.ref it)) Q E s := by
  obtain ⟨first, hit, hc⟩ := I
  have hT : s.TypeIs (.ref it) "set_iterator" := ⟨_, hit, rfl⟩
  unfold pyNext
  refine wpAny_bind (wpAny_attempt (wpAny_callSpecial?_slot (name := Str.ofString "__next__") hT slot_set_iterator_next
    (wpAny_call_entry slot_set_iterator_next hT entry_set_iterator_next ?_ (args_set_iterator_next _))))
  unfold Builtin.«set_iterator.__next__» slotArgs
  simp only [List.isEmpty_nil, Bool.not_true, Bool.false_eq_true, ↓reduceIte, bind_assoc, List.length_nil, bne_self_eq_false]
  refine wpAny_bind (wpAny_pure ?_)
  dsimp only
  refine wpAny_bind (wpAny_fieldsOf hit rfl ?_)
  dsimp only [rawInt]
  refine wpAny_bind (wpAny_setEntries_of ho rfl hf ?_)
  have esz : ((es.size : Int) != (es.size : Int)) = false := bne_self_eq_false _
  rw [esz]
  simp only [Bool.false_eq_true, if_false]
  have ne_it : it ≠ a := fun e => by
    rw [e, ho] at hit
    have := congrArg Obj.cls (Option.some.inj hit)
    simp at this
  rcases hc with ⟨hft, ⟨slot, rfl⟩, rfl⟩ | ⟨hft, hs1, hled, rfl, slot, rfl, hbel⟩ | ⟨T, L, m, rfl, hT', hL, rfl⟩
  · dsimp only [rawInt]
    refine wpAny_bind (setNext_text (i := i) hft ho hf ?_)
    rw [← Array.getElem?_toList]
    simp only [Int.toNat_natCast]
    cases hx : (pickOrder (W.w.params.setOrder a ep) es).toList[i]? with
    | none =>
      dsimp only [Option.map_none]
      refine wpAny_bind (wpAny_setField hit rfl (by simp) ?_)
      refine wpAny_mono (stop_tail (A := A) (E := E) (Q := Q) hh fun h' k => h2 h' hx ((Heap.SameBut.update ..).extBut.trans fun b o _ e => k b o e)) (fun _ _ x => x.elim) fun _ _ x => x
    | some e =>
      dsimp only [Option.map_some]
      refine wpAny_bind (wpAny_setField hit rfl (by simp) ?_)
      have u1 := set_first s.heap (rawInt slot) hit
      refine wpAny_bind (wpAny_setField u1 rfl (by simp) ?_)
      have u2 := set_count (y := (i : Int) + 1) _ u1
      refine wpAny_pure ⟨_, rfl, wpAny_pure ?_⟩
      exact h1 e _ hx ((Heap.SameBut.update ..).extBut.trans (Heap.SameBut.update ..).extBut) ⟨_, u2, .inl ⟨hft, ⟨slot, rfl⟩, rfl⟩⟩
  · dsimp only [rawInt]
    refine wpAny_bind (setNext_small (i := i) hft hs1 hled ho hf ?_)
    simp only [Int.toNat_natCast]
    rw [hbel]
    have hps : t.place.size = es.size := by
      unfold SetTable.fits at hf
      simp only [Bool.and_eq_true, beq_iff_eq] at hf
      exact hf.1
    cases hx : es[i]? with
    | none =>
      dsimp only
      have hx' : es.toList[i]? = none := by rw [Array.getElem?_toList]; exact hx
      refine wpAny_bind (wpAny_setField hit rfl (by simp) ?_)
      refine wpAny_mono (stop_tail (A := A) (E := E) (Q := Q) hh fun h' k => h2 h' hx' ((Heap.SameBut.update ..).extBut.trans fun b o _ e => k b o e)) (fun _ _ x => x.elim) fun _ _ x => x
    | some e =>
      have hx' : es.toList[i]? = some e := by rw [Array.getElem?_toList]; exact hx
      have hi := (Array.getElem?_eq_some_iff.mp hx).1
      have hi0 : i = 0 := by omega
      obtain ⟨j, hj⟩ : ∃ j, t.place = #[j] := by
        have : t.place.size = 1 := by omega
        exact Array.size_eq_one_iff.mp this
      have hp : t.place[i]? = some j := by rw [hj, hi0]; rfl
      rw [hp]
      dsimp only
      refine wpAny_bind (wpAny_setField hit rfl (by simp) ?_)
      have u1 := set_first s.heap (rawInt ((j + 1 : Nat) : Int)) hit
      refine wpAny_bind (wpAny_setField u1 rfl (by simp) ?_)
      have u2 := set_count (y := (i : Int) + 1) _ u1
      refine wpAny_pure ⟨_, rfl, wpAny_pure ?_⟩
      exact h1 e _ hx' ((Heap.SameBut.update ..).extBut.trans (Heap.SameBut.update ..).extBut) ⟨_, u2, .inr (.inl ⟨hft, hs1, hled, rfl, j + 1, rfl, by rw [hj, below1, hi0]⟩)⟩
  · refine wpAny_bind (wpAny_seqItems hT' rfl ?_)
    dsimp only
    simp only [Int.toNat_natCast, List.getElem?_toArray, List.getElem?_map]
    have neT : it ≠ T := fun e => by
      rw [e, hT'] at hit
      have := congrArg Obj.cls (Option.some.inj hit)
      simp at this
    cases hx : L[i]? with
    | none =>
      dsimp only [Option.map_none]
      have hx' : (L.map fun x => es.getD x (0, Value.none))[i]? = none := by rw [List.getElem?_map, hx]; rfl
      refine wpAny_bind (wpAny_setField hit rfl (by simp) ?_)
      have u1 := set_first s.heap (rawInt 0) hit
      refine wpAny_bind (wpAny_setField u1 rfl (by simp) ?_)
      refine wpAny_mono (stop_tail (A := A) (E := E) (Q := Q) hh fun h' k => h2 h' hx' (((Heap.SameBut.update ..).extBut.trans (Heap.SameBut.update ..).extBut).trans fun b o _ e => k b o e)) (fun _ _ x => x.elim) fun _ _ x => x
    | some x =>
      dsimp only [Option.map_some, rawInt]
      have hx' : (L.map fun x => es.getD x (0, Value.none))[i]? = some (es.getD x (0, .none)) := by rw [List.getElem?_map, hx]; rfl
      have hxl := hL x (List.mem_of_getElem? hx)
      unfold setNextDrawn
      refine wpAny_bind (wpAny_bind (wpAny_setState_of ho rfl hf ?_))
      dsimp only
      simp only [Int.toNat_natCast, bne_self_eq_false, Bool.false_eq_true, if_false]
      rw [Array.getElem?_eq_getElem hxl]
      dsimp only
      refine wpAny_pure ?_
      refine wpAny_bind (wpAny_setField hit rfl (by simp) ?_)
      have u2 := set_count (y := (i : Int) + 1) _ hit
      refine wpAny_pure ⟨_, rfl, wpAny_pure ?_⟩
      have := h1 _ _ hx' (Heap.SameBut.update ..).extBut ⟨_, u2, .inr (.inr ⟨T, L, m, rfl, ((Heap.SameBut.update s.heap it _).2 T (Ne.symm neT)).trans hT', hL, rfl⟩)⟩
      simpa [Array.getD, hxl, rawInt] using this
end
end
section
open PySem PySem.W PyProof.Rows
section
variable {W : Wd} {A : Around} {E : Value → Shared → Prop} {s : Shared} {t : SetTable} {es : Array (Int × Value)} {ep : Nat} {a b it l : Addr} {D : List Row} {ord : List (Int × Value)} {i : Nat}

theorem split_set_len : splitId "set.__len__" = some ("set", "__len__") := by kernel_rfl
theorem wp_hint_set {Q : Bool → Shared → Prop} (ho : s.heap.get? a = some (setObj es ep t)) (h : Q false s) : wpAny (Mo W) A (Builtin.List.listLengthHint (.ref a)) Q E s := by
  have hT : s.TypeIs (.ref a) "set" := ⟨_, ho, rfl⟩
  unfold Builtin.List.listLengthHint
  refine wpAny_bind (wpAny_specialOf hT F.slot_set_len.lookup ?_)
  dsimp only
  rw [split_set_len]
  dsimp only
  refine wpAny_bind (wpAny_isInstance hT sub_set_self ?_)
  simp only [Bool.not_true, Bool.false_eq_true, if_false]
  refine wpAny_ite_split (fun _ => ?_) (fun q => absurd (by decide) q)
  refine wpAny_bind (wpAny_typeOf hT ?_)
  exact wpAny_pure h

/-- what a walk into a list keeps -/
structure IntoI (W : Wd) (s s' : Shared) (it l a : Addr) (es : Array (Int × Value)) (ep : Nat) (t : SetTable) (ord : List (Int × Value)) (i : Nat) : Prop where
  keep : ∀ b o, s.heap.get? b = some o → s'.heap.get? b = some o
  gens : s'.gens = s.gens
  os : s'.os = s.os
  lst : ∃ n, s'.heap.get? l = some (lstObj ((ord.take i).map (·.2)) n)
  sit : SIt W s'.heap it a es ep t ord i

theorem into_list (hh : A.handled = none) (ho : s.heap.get? a = some (setObj es ep t)) (hf : t.fits es.size = true) (h5 : ord.length ≤ 5) (hl0 : s.heap.get? l = none) (hi0 : s.heap.get? it = none) (hne : l ≠ it) : ∀ (k i : Nat) (s₁ : Shared), ord.length - i = k → i ≤ ord.length → IntoI W s s₁ it l a es ep t ord i →
    codeAny (Mo W) A (.builtin "list.extend.loop" ⟨[.ref l, .ref it, .ref l], []⟩) (fun r s' => r = .ok (.ret (.ref l)) ∧ (∀ b o, s.heap.get? b = some o → s'.heap.get? b = some o) ∧ s'.gens = s.gens ∧ s'.os = s.os ∧ ∃ n, s'.heap.get? l = some (lstObj (ord.map (·.2)) n)) s₁ := by
  intro k
  induction k with
  | zero =>
    intro i s₁ hk hi I
    have hin : i = ord.length := by omega
    subst hin
    refine codeAny_builtin F.entry_extend_loop ?_
    rw [Around.under_plainId F.plain_extend_loop _]
    show wpAny _ A.in1 (pyNext (.ref it) >>= _) _ _ s₁
    refine wpAny_bind (wp_set_next (by simp [hh]) (I.keep _ _ ho) hf I.sit (fun e h' hx => ?_) (fun h' hx k => ?_))
    · rw [List.getElem?_eq_none (Nat.le_refl _)] at hx; cases hx
    · obtain ⟨n, hn⟩ := I.lst
      rw [List.take_length] at hn
      exact wpAny_pure ⟨rfl, fun b o e => k b o (fun q => by rw [q, hi0] at e; cases e) (I.keep b o e), I.gens, I.os, n, k l _ hne hn⟩
  | succ k ih =>
    intro i s₁ hk hi I
    have hlt : i < ord.length := by omega
    refine codeAny_builtin F.entry_extend_loop ?_
    rw [Around.under_plainId F.plain_extend_loop _]
    show wpAny _ A.in1 (pyNext (.ref it) >>= _) _ _ s₁
    refine wpAny_bind (wp_set_next (by simp [hh]) (I.keep _ _ ho) hf I.sit (fun e h' hx k hs => ?_) (fun h' hx => ?_))
    · obtain ⟨n, hn⟩ := I.lst
      have hn' := k l _ hne hn
      have hlen : ((ord.take i).map (·.2)).length ≤ 5 := by rw [List.length_map, List.length_take]; omega
      show wpAny _ _ (Builtin.List.listUpdate (.ref l) (·.push e.2) >>= _) _ _ _
      refine wpAny_bind (listUpdate_at (s := { s₁ with heap := h' }) hn' rfl ?_ (by rw [List.size_toArray, sizeLine_eq]; omega) (by rw [Array.size_push, List.size_toArray, sizeLine_eq]; omega))
      have sb := Heap.SameBut.update h' l (Obj.mapSeq (·.push e.2))
      refine wpAny_pure ⟨plainId_quiet F.plain_extend_loop _, ih (i + 1) _ (by omega) hlt ⟨fun b o q => ?_, I.gens, I.os, ?_, ?_⟩⟩
      · have nl : b ≠ l := fun z => by rw [z, hl0] at q; cases q
        have ni : b ≠ it := fun z => by rw [z, hi0] at q; cases q
        exact (sb.2 b nl).trans (k b o ni (I.keep b o q))
      · have hu := get?_update_seq (h := h') (xs := ((ord.take i).map (·.2)).toArray) (n := n) hn' (·.push e.2)
        have e1 : ord.take (i + 1) = ord.take i ++ [e] := by rw [List.take_add_one, hx]; rfl
        have e2 : ((ord.take i).map (·.2)).toArray.push e.2 = ((ord.take (i + 1)).map (·.2)).toArray := by rw [e1]; simp
        rw [e2] at hu
        exact ⟨_, hu⟩
      · obtain ⟨first, q1, q2⟩ := hs
        refine ⟨first, (sb.2 it (Ne.symm hne)).trans q1, ?_⟩
        rcases q2 with q2 | q2 | ⟨T, L, m, e1, hT, q3⟩
        · exact .inl q2
        · exact .inr (.inl q2)
        · have nT : T ≠ l := fun z => by
            rw [z, hn'] at hT
            have := congrArg Obj.cls (Option.some.inj hT)
            simp at this
          exact .inr (.inr ⟨T, L, m, e1, (sb.2 T nT).trans hT, q3⟩)
    · rw [List.getElem?_eq_getElem hlt] at hx; cases hx

theorem wp_collect_set {Q : List Value → Shared → Prop} (hh : A.handled = none) (ho : s.heap.get? a = some (setObj es ep t)) {g : Heap} (hg : g.StaysIn s.heap) (S : SetIs W g D es t) (h5 : D.length ≤ 5)
    (h : ∀ vs L s', (∀ b o, s.heap.get? b = some o → s'.heap.get? b = some o) → s'.gens = s.gens → s'.os = s.os → RelP (TupR g) L vs → L.Perm D → Q vs s') : wpAny (Mo W) A (collect (.ref a)) Q E s := by
  have hT : s.TypeIs (.ref a) "set" := ⟨_, ho, rfl⟩
  unfold collect
  refine wpAny_bind (wpAny_runValue (codeAny_builtin entry_proto_collect' ?_))
  show wpAny _ _ (do again (.builtin "list.__iadd__" ⟨[← newList [], .ref a], []⟩)) _ _ s
  refine wpAny_bind (wpAny_newList (wpAny_pure ⟨Code.quiet_builtin _ (by decide +kernel), codeAny_builtin entry_list_iadd' ?_⟩))
  show wpAny _ _ (Builtin.List.listExtendWith (.ref s.heap.objs.size) (.ref a) (.ref s.heap.objs.size)) _ _ { s with heap := s.heap.push (seqObj "list" #[] 0) }
  have fr : s.heap.get? s.heap.objs.size = none := Heap.get?_none_of_le (Nat.le_refl _)
  have hl0 : (s.heap.push (seqObj "list" #[] 0)).get? s.heap.objs.size = some (seqObj "list" #[] 0) := Heap.get?_push_size _ rfl
  have k0 : ∀ b o, s.heap.get? b = some o → (s.heap.push (seqObj "list" #[] 0)).get? b = some o := fun b o e => Heap.get?_push_of_some _ e
  generalize hs1 : ({ s with heap := s.heap.push (seqObj "list" #[] 0) } : Shared) = s₁
  have hl1 : s₁.heap.get? s.heap.objs.size = some (seqObj "list" #[] 0) := by rw [← hs1]; exact hl0
  have k1 : ∀ b o, s.heap.get? b = some o → s₁.heap.get? b = some o := by rw [← hs1]; exact k0
  have g1 : s₁.gens = s.gens := by rw [← hs1]
  have o1 : s₁.os = s.os := by rw [← hs1]
  have ho1 := k1 _ _ ho
  have hT1 : s₁.TypeIs (.ref a) "set" := ⟨_, ho1, rfl⟩
  unfold Builtin.List.listExtendWith
  refine wpAny_bind (wpAny_typeOf hT1 ?_)
  have hne : Builtin.List.listSameRef (.ref s.heap.objs.size) (.ref a) = false := by
    show (s.heap.objs.size == a) = false
    exact beq_false_of_ne fun q => by rw [← q, fr] at ho; cases ho
  have ht1 : (Value.type "set" == Value.type "list") = false := by decide
  have ht2 : (Value.type "set" == Value.type "tuple") = false := by decide
  simp only [hne, ht1, ht2, Bool.or_false, Bool.false_eq_true, if_false]
  have S1 : SetIs W s₁.heap D es t := (S.mono hg).mono k1
  refine wpAny_bind (wp_set_iter ho1 S1 h5 fun it ord s₂ k2 g2 o2 hi0 I hp => ?_)
  have ho2 := k2 _ _ ho1
  refine wpAny_bind (wpAny_holding (wp_hint_set ho2 ?_))
  refine wpAny_ite_split (fun _ => ?_) (fun q => absurd (by decide) q)
  refine wpAny_bind (wpAny_rule ?_)
  have hl2 := k2 _ _ hl1
  have nil : s.heap.objs.size ≠ it := fun q => by rw [← q, hl1] at hi0; cases hi0
  refine wpAny_bind ?_
  show wpAny _ _ (updateSeq s.heap.objs.size (·.push .none) >>= fun _ => updateSeq s.heap.objs.size (·.pop)) _ _ _
  refine wpAny_bind (wpAny_updateSeq (xs := #[]) (n := 0) hl2 rfl ?_)
  have u1 := get?_update_seq hl2 (·.push Value.none)
  have b1 := Heap.SameBut.update s₂.heap s.heap.objs.size (Obj.mapSeq (·.push Value.none))
  refine wpAny_updateSeq u1 rfl ?_
  have u2 := get?_update_seq u1 (·.pop)
  have b2 := Heap.SameBut.update (s₂.heap.update s.heap.objs.size (Obj.mapSeq (·.push Value.none))) s.heap.objs.size (Obj.mapSeq (·.pop))
  have bb := b1.trans b2
  generalize ((s₂.heap.update s.heap.objs.size (Obj.mapSeq (·.push Value.none))).update s.heap.objs.size (Obj.mapSeq (·.pop))) = h3 at *
  have ordl : ord.length ≤ 5 := by rw [hp.length_eq, Array.length_toList, S.size]; exact h5
  have hfr : ∀ b o, s.heap.get? b = some o → b ≠ s.heap.objs.size := fun b o e q => by rw [q, fr] at e; cases e
  refine wpAny_pure ⟨plainId_quiet F.plain_extend_loop _, codeAny_mono (into_list (A := A) (s := s) (ord := ord) hh ho S.fits ordl fr ?_ nil (ord.length - 0) 0 _ rfl (Nat.zero_le _) ⟨fun b o e => ?_, g2.trans g1, o2.trans o1, ⟨_, u2⟩, ?_⟩) fun r s' hr => ?_⟩
  · cases q : s.heap.get? it with
    | none => rfl
    | some o => have := k1 _ _ q; rw [hi0] at this; cases this
  · exact (bb.2 b (hfr b o e)).trans (k2 _ _ (k1 _ _ e))
  · obtain ⟨first, q1, q2⟩ := I
    refine ⟨first, (bb.2 it (Ne.symm nil)).trans q1, ?_⟩
    rcases q2 with q2 | q2 | ⟨T, L, m, e1, hT, q3⟩
    · exact .inl q2
    · exact .inr (.inl q2)
    · have nT : T ≠ s.heap.objs.size := fun z => by
        rw [z, hl2] at hT
        have := congrArg Obj.cls (Option.some.inj hT)
        simp at this
      exact .inr (.inr ⟨T, L, m, e1, (bb.2 T nT).trans hT, q3⟩)
  · obtain ⟨rfl, k3, g3, o3, n, hn⟩ := hr
    show wpAny (Mo W) A (do
      let o ← load s.heap.objs.size
      match o.data with
      | .seq xs _ => pure xs.toList
      | _ => unsupported "internal:collect") Q E s'
    refine wpAny_bind (wpAny_load hn ?_)
    show wpAny _ _ (pure ((ord.map (·.2)).toArray).toList) Q E _
    refine wpAny_pure ?_
    obtain ⟨L, rfl, hL, hT⟩ : ∃ L : List (Row × Addr), ord = L.map (entR W) ∧ (L.map Prod.fst).Perm D ∧ ∀ x ∈ L, TupR g x.1 x.2 := by
      obtain ⟨L, q1, q2, q3⟩ := S.ents
      rw [q1] at hp
      obtain ⟨L', e, p⟩ := perm_map hp
      exact ⟨L', e, (p.map _).trans q2, fun x hx => q3 x (p.mem_iff.mp hx)⟩
    refine h _ (L.map Prod.fst) s' k3 g3 o3 ?_ hL
    have : ∀ L : List (Row × Addr), (∀ x ∈ L, TupR g x.1 x.2) → RelP (TupR g) (L.map Prod.fst) ((L.map (entR W)).map (·.2)) := by
      intro L
      induction L with
      | nil => intro _; exact .nil
      | cons x L ih => intro hx; exact .cons (hx x (.head _)) (ih fun y hy => hx y (.tail _ hy))
    exact this L hT
end
end
section
open PySem PySem.W PyProof.Rows
section
variable {W : Wd} {Kf : Frag} {c : Cx} {g g₁ : Heap} {ρ ρ₁ : Rho} {loc loc' : Loc} {σ σ' : Hp} {s s₁ : Shared} {n : Nat} {sc scope : Scope}
variable {K : MV → Hp → Prop} {KE : Xc → Hp → Prop}

theorem relP_rows {L : List Row} {vs : List Value} (R : RelP (TupR g) L vs) : VRels g ρ (rowsM L) vs := by
  induction R with
  | nil => exact .nil
  | cons x _ ih =>
    obtain ⟨t1, t2, m, e⟩ := x
    exact .cons (.tup e (.cons (.str _ _) (.cons (.str _ _) .nil))) ih

theorem call_sorted_set {D : List Row} (hn : n < 1000) (h5 : D.length ≤ 5) (hK : ∀ L : List Row, L.Perm D → Rising L → K (.lst (rowsM L)) σ) : CallM W n (.builtin "sorted") [.fz (setF W D)] [] σ K KE := by with_unfolding_all exact (fun sc c g ρ loc s vs kvs C G r kr => by
  cases kr
  cases r with | cons r₁ r₂ =>
  cases r₂
  cases r₁ with | fz x =>
  obtain ⟨a, es, ep, t, rfl, hg0, S⟩ := x
  have ho := G.gh _ _ hg0
  refine Calls.call_function_entry kind_sorted plain_sorted entry_sorted (args_sorted1 _) ?_
  unfold Builtin.«sorted»
  refine wpAny_bind (m := checkCount "sorted" 1 1 _) (wpAny_pure ?_)
  refine wpAny_bind (wp_collect_set (by simp [C.hd hn]) ho G.gh S h5 fun vs L s₁ k1 g1 o1 R hp => ?_)
  have vl : vs.length ≤ 5 := by rw [R.length, hp.length_eq]; exact h5
  have G₁ : Good W c g ρ loc σ s₁ := G.move (fun b o e _ => k1 b o e) o1 g1
  have st₁ : Step c g ρ s g ρ s₁ := ⟨StaysIn.refl _, RLe.refl _, fun b o e P => ⟨k1 b o e, P⟩⟩
  refine wpAny_bind (wpAny_newList ?_ (by rw [sizeLine_eq]; omega))
  have fr : s₁.heap.get? s₁.heap.objs.size = none := Heap.get?_none_of_le (Nat.le_refl _)
  have hl : (s₁.heap.push (seqObj "list" vs.toArray 0)).get? s₁.heap.objs.size = some (seqObj "list" vs.toArray 0) := Heap.get?_push_size _ rfl
  have kp : ∀ b o, s₁.heap.get? b = some o → (s₁.heap.push (seqObj "list" vs.toArray 0)).get? b = some o := fun b o e => Heap.get?_push_of_some _ e
  refine wpAny_bind (wpAny_holding (wpAny_call_entry slot_list_sort ⟨_, hl, rfl⟩ entry_list_sort (wp_list_sort (W := W) hl R (fun r b x => (x.mono (G₁.gh)).mono kp |>.at) (by rw [hp.length_eq]; exact h5) (hp.symm.nodup S.nd) fun h' vs' L' c' k' hl' R' hp' ri => ⟨_, rfl, ?_⟩) (args_list_sort _)))
  refine wpAny_pure ⟨_, rfl, ?_⟩
  have ne : ∀ {b : Nat} {o'}, s₁.heap.get? b = some o' → b ≠ s₁.heap.objs.size := fun e q => by rw [q, fr] at e; cases e
  have kk : ∀ b o, s₁.heap.get? b = some o → h'.get? b = some o := fun b o e => k' b o (ne e) (kp b o e)
  have G₂ : Good W c g ρ loc σ { s₁ with heap := h' } := G₁.move (fun b o e _ => kk b o e) rfl rfl
  have st₂ : Step c g ρ s g ρ { s₁ with heap := h' } := ⟨StaysIn.refl _, RLe.refl _, fun b o e P => ⟨kk b o (k1 b o e), P⟩⟩
  have Pa : Priv c g ρ s₁.heap.objs.size := G₁.fresh fr
  have fr0 : s.heap.get? s₁.heap.objs.size = none := by
    cases q : s.heap.get? s₁.heap.objs.size with
    | none => rfl
    | some o => have := k1 _ _ q; rw [fr] at this; cases this
  obtain ⟨G₃, st₃, e₃, le₃⟩ := G₂.freeze st₂ (fun b o e P q => by rw [q, fr0] at e; cases e) Pa hl'
  exact ⟨.lst (rowsM L'), σ, _, ρ, hK L' (hp'.trans hp) ri, st₃, G₃, .lst (n := c') e₃ ((relP_rows R').mono le₃ (RLe.refl _))⟩)
end
end
section
open PySem PySem.W PyProof.Rows
/-! the texts of the law -/
def namesL : List Str := ["X-A", "x-a", "Host", "HOST"].map Str.ofString
def keysR : List Str := namesL ++ [Str.ofString "Y"]
def valsR : List Str := ["", "0", "1", "2", "3", "4"].map Str.ofString
def good1b (r : Row) : Bool := decide (reSays r.2 = some false) && decide (r.1.length ≤ 100) && decide (r.2.length ≤ 100) && PyData.strOk r.1 && PyData.strOk r.2 && PyData.strOk (low r.1)
theorem good_all : ∀ k ∈ keysR, ∀ v ∈ valsR, good1b (k, v) = true := by decide +kernel
def InR (r : Row) : Prop := r.1 ∈ keysR ∧ r.2 ∈ valsR
theorem good1_of {r : Row} (h : good1b r = true) : Good1 r := by
  unfold good1b at h
  simp only [Bool.and_eq_true, decide_eq_true_eq] at h
  obtain ⟨⟨⟨⟨⟨a, b⟩, c⟩, d⟩, e⟩, f⟩ := h
  exact ⟨⟨a, by omega⟩, b, c, d, e, f⟩
theorem InR.good {r : Row} (h : InR r) : Good1 r := good1_of (good_all r.1 h.1 r.2 h.2)
def InRs (rows : List Row) : Prop := ∀ r ∈ rows, InR r
theorem InRs.goods {rows : List Row} (h : InRs rows) : Goods rows := fun r hr => (h r hr).good

def keysO : List Str := namesL ++ namesL.map Txt.upper ++ namesL.map (Str.ofString "Y" ++ ·)
def valsO : List Str := valsR ++ valsR.map (· ++ Str.ofString "0") ++ [Str.ofString "9"]
theorem keys_all : ∀ k ∈ keysO, decide (k.length ≤ 100) && PyData.strOk (low k) = true := by decide +kernel
theorem vals_all : ∀ v ∈ valsO, decide (reSays v = some false) && decide (v.length ≤ 100) && PyData.strOk v = true := by decide +kernel
def InO (r : Row) : Prop := r.1 ∈ keysO ∧ r.2 ∈ valsO
def InOs (rows : List Row) : Prop := ∀ r ∈ rows, InO r
theorem InO.key {r : Row} (h : InO r) : r.1.length ≤ 100 ∧ PyData.strOk (low r.1) = true := by
  have := keys_all r.1 h.1
  simp only [Bool.and_eq_true, decide_eq_true_eq] at this
  exact this
theorem InO.val {r : Row} (h : InO r) : reSays r.2 = some false ∧ r.2.length ≤ 100 ∧ PyData.strOk r.2 = true := by
  have := vals_all r.2 h.2
  simp only [Bool.and_eq_true, decide_eq_true_eq] at this
  exact ⟨this.1.1, this.1.2, this.2⟩
theorem InOs.clean {rows : List Row} (h : InOs rows) : Clean rows := fun r hr => ⟨⟨(h r hr).val.1, by have := (h r hr).val.2.1; omega⟩, by have := (h r hr).key.1; omega⟩
theorem InOs.short {rows : List Row} (h : InOs rows) : Short rows := fun r hr => ⟨by have := (h r hr).key.1; omega, by have := (h r hr).val.2.1; omega⟩
/-- rows of the first part: keys from the names alone -/
def In4 (r : Row) : Prop := r.1 ∈ namesL ∧ r.2 ∈ valsR
def In4s (rows : List Row) : Prop := ∀ r ∈ rows, In4 r
theorem In4.r {r : Row} (h : In4 r) : InR r := ⟨List.mem_append_left _ h.1, h.2⟩
theorem In4.o {r : Row} (h : In4 r) : InO r := ⟨List.mem_append_left _ (List.mem_append_left _ h.1), List.mem_append_left _ (List.mem_append_left _ h.2)⟩
theorem In4s.r {rows : List Row} (h : In4s rows) : InRs rows := fun r hr => (h r hr).r
theorem In4s.o {rows : List Row} (h : In4s rows) : InOs rows := fun r hr => (h r hr).o

/-! the other headers that the first part sets against -/
def upRow (r : Row) : Row := (Txt.upper r.1, r.2)
def yRow (r : Row) : Row := (Str.ofString "Y" ++ r.1, r.2)
def zRow (r : Row) : Row := (r.1, r.2 ++ Str.ofString "0")
def host9 : Row := (Str.ofString "Host", Str.ofString "9")
def othersL (rows : List Row) : List (List Row) := [rows.map upRow, rows.drop 1 ++ rows.take 1, rows.drop 1, rows ++ rows.take 1, rows ++ [host9], rows.map yRow, rows.map zRow]
theorem host9_o : InO host9 := by unfold InO; decide +kernel
theorem othersL_ok {rows : List Row} (h : In4s rows) (h4 : rows.length ≤ 4) : ∀ o ∈ othersL rows, InOs o ∧ o.length ≤ 5 := by
  have ho := h.o
  have map_ok : ∀ f : Row → Row, (∀ r, In4 r → InO (f r)) → InOs (rows.map f) ∧ (rows.map f).length ≤ 5 := fun f hf => ⟨fun r hr => by
    obtain ⟨r', hr', rfl⟩ := List.mem_map.mp hr
    exact hf r' (h r' hr'), by rw [List.length_map]; omega⟩
  intro o hm
  simp only [othersL, List.mem_cons, List.not_mem_nil, or_false] at hm
  rcases hm with rfl | rfl | rfl | rfl | rfl | rfl | rfl
  · exact map_ok _ fun r hr => ⟨List.mem_append_left _ (List.mem_append_right _ (List.mem_map_of_mem hr.1)), hr.o.2⟩
  · refine ⟨fun r hr => ?_, by rw [List.length_append, List.length_drop, List.length_take]; omega⟩
    rcases List.mem_append.mp hr with q | q
    · exact ho r (List.mem_of_mem_drop q)
    · exact ho r (List.mem_of_mem_take q)
  · exact ⟨fun r hr => ho r (List.mem_of_mem_drop hr), by rw [List.length_drop]; omega⟩
  · refine ⟨fun r hr => ?_, by rw [List.length_append, List.length_take]; omega⟩
    rcases List.mem_append.mp hr with q | q
    · exact ho r q
    · exact ho r (List.mem_of_mem_take q)
  · refine ⟨fun r hr => ?_, by rw [List.length_append]; simp; omega⟩
    rcases List.mem_append.mp hr with q | q
    · exact ho r q
    · rw [List.mem_singleton] at q; subst q; exact host9_o
  · exact map_ok _ fun r hr => ⟨List.mem_append_right _ (List.mem_map_of_mem hr.1), hr.o.2⟩
  · exact map_ok _ fun r hr => ⟨hr.o.1, List.mem_append_left _ (List.mem_append_right _ (List.mem_map_of_mem hr.2))⟩

/-! sets of pairs, and their sorted lists -/
theorem lowSet_eq (rows : List Row) : lowSet rows = dedup (rows.map lowRow) := by
  unfold lowSet dedup; rw [List.foldl_map]
theorem addR_nodup {D : List Row} {r : Row} (h : D.Nodup) : (addR D r).Nodup := by
  unfold addR
  split
  · exact h
  · rename_i hr
    exact List.nodup_append.mpr ⟨h, List.nodup_cons.mpr ⟨by simp, List.nodup_nil⟩, fun x hx y hy e => by
      rw [List.mem_singleton] at hy; subst hy; subst e; exact hr hx⟩
theorem dedup_nodup (rows : List Row) : (dedup rows).Nodup := by
  have key : ∀ (rows D : List Row), D.Nodup → (rows.foldl addR D).Nodup := by
    intro rows
    induction rows with
    | nil => intro D h; exact h
    | cons r rows ih => intro D h; exact ih _ (addR_nodup h)
  exact key rows [] List.nodup_nil
theorem sub_perm : ∀ {a b : List Row}, a.Nodup → a.length = b.length → (∀ x ∈ a, x ∈ b) → a.Perm b
  | [], b, _, hl, _ => by
    have : b = [] := List.length_eq_zero_iff.mp hl.symm
    rw [this]
  | x :: a, b, hn, hl, hs => by
    rw [List.nodup_cons] at hn
    obtain ⟨b1, b2, rfl⟩ := List.append_of_mem (hs x (.head _))
    have : a.Perm (b1 ++ b2) := sub_perm hn.2 (by simp at hl ⊢; omega) fun y hy => by
      have := hs y (.tail _ hy)
      rcases List.mem_append.mp this with q | q
      · exact List.mem_append_left _ q
      · rcases List.mem_cons.mp q with rfl | q
        · exact absurd hy hn.1
        · exact List.mem_append_right _ q
    exact (this.cons x).trans List.perm_middle.symm
/-- the two ways to say that two sets are one -/
theorem sets_law {D D' L L' : List Row} (n : D.Nodup) (n' : D'.Nodup) (p : L.Perm D) (p' : L'.Perm D') (r : Rising L) (r' : Rising L') : (D'.length = D.length ∧ ∀ x ∈ D', x ∈ D) ↔ L' = L := by
  constructor
  · rintro ⟨h1, h2⟩
    have : D'.Perm D := sub_perm n' h1 h2
    exact rising_uniq ((p'.trans this).trans p.symm) r' r
  · rintro rfl
    have q := p'.symm.trans p
    exact ⟨q.length_eq, fun x hx => q.mem_iff.mp hx⟩
end
section
open PySem PySem.W PyProof.Rows
def at' (ss : List Int) (i : Nat) (d : Int) : Int := (ss[i]?).getD d
def x0 (ss : List Int) (q : Nat) : Int := at' ss (1 + q) (5 * q)
def row0 (ss : List Int) (q : Nat) : Row := (namesL.getD ((x0 ss q).fmod 4).toNat default, decS (((x0 ss q).fdiv 4).fmod 3))
def n0 (ss : List Int) : Nat := ((at' ss 0 3).fmod 5).toNat
def rows0 (ss : List Int) : List Row := (List.range (n0 ss)).map (row0 ss)

theorem fmod_nn {a b : Int} (hb : 0 < b) : 0 ≤ a.fmod b ∧ a.fmod b < b := ⟨Int.fmod_nonneg_of_pos a hb, Int.fmod_lt_of_pos a hb⟩
theorem dec_all : ∀ i ∈ List.range 5, decS (i : Int) ∈ valsR := by decide +kernel
theorem dec_in {i : Int} (h0 : 0 ≤ i) (h5 : i < 5) : decS i ∈ valsR := by
  obtain ⟨k, rfl⟩ := Int.eq_ofNat_of_zero_le h0
  exact dec_all k (List.mem_range.mpr (by omega))
theorem name_in {j : Nat} (h : j < 4) : namesL.getD j default ∈ namesL := by
  match j, h with
  | 0, _ => exact .head _
  | 1, _ => exact .tail _ (.head _)
  | 2, _ => exact .tail _ (.tail _ (.head _))
  | 3, _ => exact .tail _ (.tail _ (.tail _ (.head _)))
theorem name_get {j : Nat} (h : j < 4) : (strsM namesL)[j]? = some (.str (namesL.getD j default)) := by
  match j, h with
  | 0, _ => rfl
  | 1, _ => rfl
  | 2, _ => rfl
  | 3, _ => rfl
theorem row0_in (ss : List Int) (q : Nat) : In4 (row0 ss q) := by
  have h1 := fmod_nn (a := x0 ss q) (b := 4) (by decide)
  have h2 := fmod_nn (a := (x0 ss q).fdiv 4) (b := 3) (by decide)
  exact ⟨name_in (by omega), dec_in h2.1 (by omega)⟩
theorem rows0_in (ss : List Int) : In4s (rows0 ss) := fun r hr => by
  obtain ⟨q, _, rfl⟩ := List.mem_map.mp hr
  exact row0_in ss q
theorem n0_le (ss : List Int) : n0 ss ≤ 4 := by
  have := fmod_nn (a := at' ss 0 3) (b := 5) (by decide)
  unfold n0; omega
theorem rows0_len (ss : List Int) : (rows0 ss).length ≤ 4 := by
  unfold rows0; rw [List.length_map, List.length_range]; exact n0_le ss

section
variable {W : Wd} {Kf : Frag} {σ : Hp} {n : Nat} {K : MV → Hp → Prop} {KE : Xc → Hp → Prop} {sc scope : Scope} {loc loc' : Loc}

theorem c_law_at (F : Pr W Kf) (hn : n ≤ 40) {ss : List Int} {k : Nat} {d : Int} (hz : ss.length ≤ 100000) (h : K (.int (at' ss k d)) σ) :
    CallM W n (.ref 550) [.lst (intsM ss), .int k, .int d] [] σ K KE := by
  have FX := F.toSx
  have hzl : (intsM ss).length ≤ 100000 := by rw [intsM, List.length_map]; exact hz
  refine call_cd (by omega) ?_
  obtain ⟨r, D⟩ := F.f550
  refine fn_call (body := bodyOf (topStmt 16)) D F.lim (by omega) rfl ⟨rfl, rfl, rfl⟩ ?_
  refine bd_pos (ps := ["script", "k", "other"]) (fun vs hv => ?_) rfl ?_
  · match vs, hv with
    | [a, b, c], _ => rfl
  refine ⟨rfl, ?_⟩
  walk_at "mv"
  refine ⟨_, rfl, by walk_at "mv_keep", ?_⟩
  walk_at "mv"
  refine call_len (l := intsM ss) rfl hzl ?_
  refine op_lt_int ?_
  refine tst_bool ?_
  have hlen : (intsM ss).length = ss.length := by rw [intsM, List.length_map]
  refine ⟨fun hb => ?_, fun hb => ?_⟩
  · walk_at "mv"
    have hk : k < ss.length := by rw [hlen] at hb; simpa using hb
    refine sub_list_int (l := intsM ss) (j := k) (m := .int ss[k]) rfl hzl (.inl ⟨Int.natCast_nonneg k, by simp⟩) (by rw [intsM, List.getElem?_map, List.getElem?_eq_getElem hk]; rfl) ?_
    unfold at' at h
    rw [List.getElem?_eq_getElem hk] at h
    exact h
  · walk_at "mv"
    have hk : ss[k]? = none := List.getElem?_eq_none (by rw [hlen] at hb; simpa using hb)
    unfold at' at h
    rw [hk] at h
    exact h

theorem mul5 (q : Nat) : IntMulOk 5 (q : Int) := by
  unfold IntMulOk
  have : decide (Builtin.Int.intBits 5 > shortFactorBits) = false := by decide
  rw [this]
  simp

/-- the rows that the script gives -/
theorem ev_rows0 (F : Pr W Kf) (hn : n ≤ 30) {ss : List Int} (hz : ss.length ≤ 63) {elt iter : Expr} {p1 pos : Pos} {k : Str} (hok : compOk sc scope = true) (hcap : CapL sc scope [("names", .lst (strsM namesL)), ("script", .lst (intsM ss))] loc) (hs : ∀ env x, foldedSetIterable iter env x = pure x)
    (hk : (compScope sc scope).names.lookup k = some .local) (hkl : List.lookup k ([("names", .lst (strsM namesL)), ("script", .lst (intsM ss))] : Loc) = none)
    (hit : ∀ K' : MV → Hp → Prop, K' (.fz (rngF 0 (n0 ss : Int) 1)) σ → EvP W n sc iter loc σ K' KE)
    (hw : wf σ) (he : ∀ q τ, ∀ K' : MV → Hp → Prop, K' (rowM (row0 ss q)) τ → EvP W n (compScope sc scope) elt [(k, .int (q : Nat)), ("names", .lst (strsM namesL)), ("script", .lst (intsM ss))] τ K' NE)
    (hK : K (.lst (rowsM (rows0 ss))) σ) : EvP W n sc (.ListComp elt [⟨.Name k p1, iter, [], 0⟩] scope pos) loc σ K KE := by
  have h4 := n0_le ss
  refine ev_comp_range (N := n0 ss) [("names", .lst (strsM namesL)), ("script", .lst (intsM ss))] hok hcap hs (by omega) hit (fun k _ => by simp [locOk, MV.ok, strsM_ok, intsM_ok]) hw (by omega)
    (fun q => rowsM ((List.range q).map (row0 ss))) rfl (fun q hq => ⟨by rw [rowsM_len, List.length_map, List.length_range]; omega, fun k => ok_rows k _⟩) (fun q hq τ hwτ hx => ?_) hK
  refine aq_name hk ?_
  refine ⟨rfl, sub_cons hkl (SubL.refl _), ?_⟩
  refine tests_nil ?_
  refine ⟨rfl, fun _ => ?_, nofun⟩
  refine he q τ _ ⟨rfl, ?_⟩
  rw [List.range_succ, List.map_append]
  simp [plus, rowsM]
end
end
section
open PySem PySem.W PyProof.Rows
section
variable {W : Wd} {Kf : Frag} {σ : Hp} {n : Nat} {K : Fl → Loc → Hp → Prop} {KE : Xc → Loc → Hp → Prop}
abbrev lawSc : Scope := scopeOf (topStmt 20)
abbrev lawBody : List Stmt := bodyOf (topStmt 20)

def S0 (rows : List Row) : Hp := [.inst (some 1), .list (rowsM rows)]
def L1 (ss : List Int) : Loc := [("headers", .obj 0), ("rows", .lst (rowsM (rows0 ss))), ("names", .lst (strsM namesL)), ("head", .int (at' ss 0 3)), ("script", .lst (intsM ss))]

theorem law_a (F : Pr W Kf) (hn : n ≤ 2) {ss : List Int} (hz : ss.length ≤ 63)
    (h : ExsP W n lawSc (lawBody.drop 4) (L1 ss) (S0 (rows0 ss)) K KE) : ExsP W n lawSc lawBody [("script", .lst (intsM ss))] [] K KE := by
  have FX := F.toSx
  have hz' : ss.length ≤ 100000 := by omega
  have w0 : wf [] := fun k _ => rfl
  walk_at "mv"
  refine ⟨_, rfl, by walk_at "mv_keep", ?_⟩
  walk_at "mv"
  refine c_law_at (k := 0) F (by omega) hz' ?_
  walk_at "mv"
  refine ev_list ?_
  walk_at "mv"
  refine ⟨by simp, ?_⟩
  walk_at "mv"
  refine ex_assign ?_ (fun env h => by cases env; cases h; rfl) (fun env h => by cases env; cases h; rfl) (fun _ => rfl)
  refine ev_rows0 F (by omega) hz rfl (capL_cons rfl rfl (capL_cons rfl rfl capL_nil)) (fun _ _ => rfl) rfl rfl (fun K' hK => ?_) w0 (fun q τ K' hK => ?_) ?_
  · walk_at "mv"
    refine ⟨_, rfl, by walk_at "mv_keep", ?_⟩
    walk_at "mv"
    refine op_mod_int (by decide) ?_
    walk_at "mv"
    have := fmod_nn (a := at' ss 0 3) (b := 5) (by decide)
    refine call_range1 ?_
    rw [show (at' ss 0 3).fmod 5 = ((n0 ss : Nat) : Int) by unfold n0; omega]
    exact hK
  · have e1 : (1 : Int) + (q : Int) = ((1 + q : Nat) : Int) := by omega
    have h1 := fmod_nn (a := x0 ss q) (b := 4) (by decide)
    have h2 := fmod_nn (a := (x0 ss q).fdiv 4) (b := 3) (by decide)
    walk_at "mv"
    refine ⟨_, rfl, by walk_at "mv_keep", ?_⟩
    walk_at "mv"
    refine op_add_int ?_
    walk_at "mv"
    refine op_mul_int (mul5 q) ?_
    walk_at "mv"
    rw [e1]
    refine c_law_at F (by omega) hz' ?_
    walk_at "mv"
    refine op_mod_int (by decide) ?_
    refine sub_list_int (l := strsM namesL) (j := ((x0 ss q).fmod 4).toNat) rfl (by simp [strsM, namesL]) (.inl ⟨h1.1, rfl⟩) (name_get (by omega)) ?_
    walk_at "mv"
    refine ⟨_, rfl, by walk_at "mv_keep", ?_⟩
    walk_at "mv"
    refine ⟨_, rfl, by walk_at "mv_keep", ?_⟩
    walk_at "mv"
    refine op_add_int ?_
    walk_at "mv"
    refine op_mul_int (mul5 q) ?_
    walk_at "mv"
    rw [e1]
    refine c_law_at F (by omega) hz' ?_
    walk_at "mv"
    refine op_fdiv_int (by decide) (by decide) ?_
    walk_at "mv"
    refine op_mod_int (by decide) ?_
    walk_at "mv"
    refine call_str_int (by show ((x0 ss q).fdiv 4 |>.fmod 3).natAbs < _; omega) ?_
    walk_at "mv"
    exact ⟨by simp, hK⟩
  walk_at "mv"
  refine ⟨_, rfl, by walk_at "mv_keep", ?_⟩
  walk_at "mv"
  refine new_list F (by omega) w0 (by have := rows0_len ss; omega) (rows0_in ss).r.goods.clean ?_
  refine as_name rfl ?_
  exact h
end
end
section
open PySem PySem.W PyProof.Rows
section
variable {W : Wd} {Kf : Frag} {σ : Hp} {n : Nat} {K : Fl → Loc → Hp → Prop} {KE : Xc → Loc → Hp → Prop}

theorem S0_rows {rows : List Row} (h : Short rows) (hf : rows.length ≤ 1000) : HasRows (S0 rows) 0 1 rows := ⟨rfl, rfl, h, hf⟩
theorem S0_ok (rows : List Row) : wf (S0 rows) := fun k hk => by
  have hk : 2 ≤ k := hk
  unfold S0
  simp only [List.all_cons, List.all_nil, Bool.and_true, Bool.and_eq_true]
  refine ⟨?_, ok_rows k rows⟩
  simp only [MO.ok, decide_eq_true_eq]
  omega

theorem law_b (F : Pr W Kf) (hn : n ≤ 2) {ss : List Int}
    (h : ∀ L : List Row, L.Perm (dedup ((rows0 ss).map lowRow)) → Rising L → ExsP W n lawSc (lawBody.drop 5) (("lowered", .lst (rowsM L)) :: L1 ss) (S0 (rows0 ss)) K KE) : ExsP W n lawSc (lawBody.drop 4) (L1 ss) (S0 (rows0 ss)) K KE := by
  have FX := F.toSx
  have hin := rows0_in ss
  have hlen := rows0_len ss
  have hw := S0_ok (rows0 ss)
  refine exs_cons ?_
  refine ex_assign ?_ (fun _ _ => rfl) (fun _ _ => rfl) (fun _ => rfl)
  walk_at "mv"
  refine ⟨_, rfl, by walk_at "mv_keep", ?_⟩
  walk_at "mv"
  refine ⟨_, rfl, by walk_at "mv_keep", ?_⟩
  refine evs_cons ?_ (fun _ => rfl)
  refine ev_comp_rows (rows := rows0 ss) (fun r => rowM (lowRow r)) [] rfl capL_nil (fun _ _ => rfl) (by omega) rfl rfl rfl rfl (fun K' hK => ?_) (fun k _ => rfl) hw (by omega) (fun _ _ => rfl) (fun r hr τ _ _ K' hK => ?_) ?_
  · walk_at "mv"; exact hK
  · walk_at "mv"
    refine ⟨_, getM_lower, by walk_at "mv_keep", ?_⟩
    walk_at "mv"
    refine call_lower ((hin.o.short r hr).1) ?_
    walk_at "mv"
    exact ⟨by simp, hK⟩
  have e : (rows0 ss).map (fun r => rowM (lowRow r)) = rowsM ((rows0 ss).map lowRow) := by simp [rowsM]
  rw [e]
  walk_at "mv"
  refine call_set_rows (by omega) (by rw [List.length_map]; omega) hw ?_
  walk_at "mv"
  refine call_sorted_set (by omega) (by have := dedup_len ((rows0 ss).map lowRow); rw [List.length_map] at this; omega) fun L p r => ?_
  refine as_name rfl ?_
  exact h L p r
end
end
section
open PySem PySem.W PyProof.Rows
section
variable {W : Wd} {σ : Hp} {n : Nat} {sc : Scope} {loc : Loc} {K : Fl → Loc → Hp → Prop} {KE : Xc → Loc → Hp → Prop}
/-- what a statement left behind is let go -/
def CutK (k : Nat) (K : Fl → Loc → Hp → Prop) : Fl → Loc → Hp → Prop
  | .next, l, τ => Less k (fun l τ => K .next l τ) l τ
  | f, l, τ => K f l τ
theorem ex_cut {st : Stmt} (h : ExP W n sc st loc σ (CutK σ.length K) KE) : ExP W n sc st loc σ K KE := by with_unfolding_all exact (fun c g ρ s C G =>
  wpAny_mono (h c g ρ s C G) (fun f s' q => by
    obtain ⟨fl, l', σ', g', ρ', hK, st, G', r⟩ := q
    cases r with
    | next =>
      obtain ⟨l2, σ2, ρ2, hK2, st2, G2, _⟩ := G'.less st (by rw [G.len]; exact Nat.le_refl _) hK
      exact ⟨.next, l2, σ2, g', ρ2, hK2, st2, G2, .next⟩
    | brk => exact ⟨.brk, l', σ', g', ρ', hK, st, G', .brk⟩
    | cont => exact ⟨.cont, l', σ', g', ρ', hK, st, G', .cont⟩
    | ret r => exact ⟨.ret _, l', σ', g', ρ', hK, st, G', .ret r⟩) fun _ _ x => x)
end
section
variable {W : Wd} {Kf : Frag} {σ : Hp} {n : Nat} {K : Fl → Loc → Hp → Prop} {KE : Xc → Loc → Hp → Prop}

theorem slice_drop1 (rows : List Row) : ((rowsM rows).drop (kms_lo (some 1) (rowsM rows).length)).take (kms_hi none (rowsM rows).length - kms_lo (some 1) (rowsM rows).length) = rowsM (rows.drop 1) := by
  rw [rowsM_len]
  have e1 : kms_lo (some 1) rows.length = min 1 rows.length := by simp [kms_lo]
  have e2 : kms_hi none rows.length = rows.length := rfl
  rw [e1, e2, show rowsM (rows.drop 1) = (rowsM rows).drop 1 by simp [rowsM]]
  cases rows with
  | nil => rfl
  | cons r rows =>
    rw [List.take_of_length_le (by rw [List.length_drop, rowsM_len]; simp)]
    congr 1
theorem slice_take1 (rows : List Row) : ((rowsM rows).drop (kms_lo none (rowsM rows).length)).take (kms_hi (some 1) (rowsM rows).length - kms_lo none (rowsM rows).length) = rowsM (rows.take 1) := by
  rw [rowsM_len]
  have e1 : kms_lo none rows.length = 0 := rfl
  have e2 : kms_hi (some 1) rows.length = min 1 rows.length := by simp [kms_hi]
  rw [e1, e2, show rowsM (rows.take 1) = (rowsM rows).take 1 by simp [rowsM]]
  cases rows with
  | nil => rfl
  | cons r rows => simp

def othersM (rows : List Row) : List MV := (othersL rows).map fun o => .lst (rowsM o)
theorem othersM_ok (k : Nat) (rows : List Row) : oksL k (othersM rows) = true := by
  unfold othersM
  generalize othersL rows = l
  induction l with
  | nil => rfl
  | cons o l ih => simp only [List.map_cons, oksL, Bool.and_eq_true]; exact ⟨by simp only [MV.ok]; exact ok_rows _ _, ih⟩

theorem getM_upper {x : Str} : GetM W (.str x) (Str.ofString "upper") σ (.builtin "str.upper") := getM_str "upper" "str.upper" fun h => GM.upper h

def L2 (ss : List Int) (L : List Row) : Loc := ("lowered", .lst (rowsM L)) :: L1 ss
theorem addR_mem {D : List Row} {r x : Row} (h : x ∈ addR D r) : x ∈ D ∨ x = r := by
  unfold addR at h
  split at h
  · exact .inl h
  · rcases List.mem_append.mp h with q | q
    · exact .inl q
    · exact .inr (List.mem_singleton.mp q)
theorem dedup_mem {rows : List Row} {x : Row} (h : x ∈ dedup rows) : x ∈ rows := by
  have key : ∀ (rows D : List Row), x ∈ rows.foldl addR D → x ∈ D ∨ x ∈ rows := by
    intro rows
    induction rows with
    | nil => intro D h; exact .inl h
    | cons r rows ih =>
      intro D h
      rcases ih _ h with q | q
      · rcases addR_mem q with q | rfl
        · exact .inl q
        · exact .inr (.head _)
      · exact .inr (.tail _ q)
  rcases key rows [] h with q | q
  · cases q
  · exact q
theorem low_ok {rows L : List Row} (h : InOs rows) (p : L.Perm (dedup (rows.map lowRow))) : rowOks L := fun r hr => by
  obtain ⟨r', hr', rfl⟩ := List.mem_map.mp (dedup_mem (p.mem_iff.mp hr))
  exact ⟨(h r' hr').key.2, (h r' hr').val.2.2⟩
theorem law_c (F : Pr W Kf) (hn : n ≤ 2) {ss : List Int} {L : List Row} (hp : L.Perm (dedup ((rows0 ss).map lowRow))) (hr : Rising L)
    (h : ExsP W n lawSc (lawBody.drop 6) (("lowered", .lst (rowsM L)) :: L1 ss) (S0 (rows0 ss)) K KE) : ExsP W n lawSc (lawBody.drop 5) (("lowered", .lst (rowsM L)) :: L1 ss) (S0 (rows0 ss)) K KE := by
  have FX := F.toSx
  have hin := rows0_in ss
  have hlen := rows0_len ss
  have hw := S0_ok (rows0 ss)
  have hsh := hin.o.short
  refine exs_cons ?_
  refine ex_cut ?_
  refine ex_for ?_ (fun _ _ => rfl)
  refine ev_tuple ?_
  refine evs_cons ?_ (fun _ => rfl)
  refine ev_comp_rows (rows := rows0 ss) (fun r => rowM (upRow r)) [] rfl capL_nil (fun _ _ => rfl) (by omega) rfl rfl rfl rfl (fun K' hK => ?_) (fun k _ => rfl) hw (by omega) (fun _ _ => rfl) (fun r hr τ _ _ K' hK => ?_) ?_
  · walk_at "mv"; exact hK
  · walk_at "mv"
    refine ⟨_, getM_upper, by walk_at "mv_keep", ?_⟩
    walk_at "mv"
    refine call_upper (hsh r hr).1 ?_
    walk_at "mv"
    exact ⟨by simp, hK⟩
  refine evs_cons ?_ (fun _ => rfl)
  walk_at "mv"
  refine ev_slice ?_
  refine evo_some ?_
  walk_at "mv"
  refine evo_none ?_
  refine ⟨some 1, none, rfl, rfl, ?_⟩
  refine sub_slice (l := rowsM (rows0 ss)) rfl (by rw [rowsM_len]; omega) ?_
  rw [slice_drop1]
  walk_at "mv"
  refine ev_slice ?_
  refine evo_none ?_
  refine evo_some ?_
  walk_at "mv"
  refine ⟨none, some 1, rfl, rfl, ?_⟩
  refine sub_slice (l := rowsM (rows0 ss)) rfl (by rw [rowsM_len]; omega) ?_
  rw [slice_take1]
  refine op_add_lists (l := rowsM ((rows0 ss).drop 1)) (l' := rowsM ((rows0 ss).take 1)) rfl rfl (by rw [rowsM_len, rowsM_len, List.length_drop, List.length_take]; omega) ?_
  walk_at "mv"
  refine ev_slice ?_
  refine evo_some ?_
  walk_at "mv"
  refine evo_none ?_
  refine ⟨some 1, none, rfl, rfl, ?_⟩
  refine sub_slice (l := rowsM (rows0 ss)) rfl (by rw [rowsM_len]; omega) ?_
  rw [slice_drop1]
  walk_at "mv"
  refine ev_slice ?_
  refine evo_none ?_
  refine evo_some ?_
  walk_at "mv"
  refine ⟨none, some 1, rfl, rfl, ?_⟩
  refine sub_slice (l := rowsM (rows0 ss)) rfl (by rw [rowsM_len]; omega) ?_
  rw [slice_take1]
  refine op_add_lists (l := rowsM (rows0 ss)) (l' := rowsM ((rows0 ss).take 1)) rfl rfl (by rw [rowsM_len, rowsM_len, List.length_take]; omega) ?_
  walk_at "mv"
  refine ev_list ?_
  walk_at "mv"
  refine ⟨by simp, ?_⟩
  walk_at "mv"
  refine ⟨by simp, ?_⟩
  refine op_add_lists (l := rowsM (rows0 ss)) (l' := rowsM [host9]) rfl rfl (by rw [rowsM_len]; simp [rowsM]; omega) ?_
  refine evs_cons ?_ (fun _ => rfl)
  refine ev_comp_rows (rows := rows0 ss) (fun r => rowM (yRow r)) [] rfl capL_nil (fun _ _ => rfl) (by omega) rfl rfl rfl rfl (fun K' hK => ?_) (fun k _ => rfl) hw (by omega) (fun _ _ => rfl) (fun r hr τ _ _ K' hK => ?_) ?_
  · walk_at "mv"; exact hK
  · have := (hin.o r hr).key.1
    walk_at "mv"
    refine op_add_str (by have : (Str.ofString "Y").length = 1 := rfl; omega) ?_
    walk_at "mv"
    exact ⟨by simp, hK⟩
  refine evs_cons ?_ (fun _ => rfl)
  refine ev_comp_rows (rows := rows0 ss) (fun r => rowM (zRow r)) [] rfl capL_nil (fun _ _ => rfl) (by omega) rfl rfl rfl rfl (fun K' hK => ?_) (fun k _ => rfl) hw (by omega) (fun _ _ => rfl) (fun r hr τ _ _ K' hK => ?_) ?_
  · walk_at "mv"; exact hK
  · have := (hin.o r hr).val.2.1
    walk_at "mv"
    refine op_add_str (by have : (Str.ofString "0").length = 1 := rfl; omega) ?_
    walk_at "mv"
    exact ⟨by simp, hK⟩
  refine evs_nil ?_
  refine ⟨by simp, ?_⟩
  have eo : ([MV.lst ((rows0 ss).map fun r => rowM (upRow r)), MV.lst (rowsM ((rows0 ss).drop 1) ++ rowsM ((rows0 ss).take 1)), MV.lst (rowsM ((rows0 ss).drop 1)), MV.lst (rowsM (rows0 ss) ++ rowsM ((rows0 ss).take 1)), MV.lst (rowsM (rows0 ss) ++ rowsM [host9]),
      MV.lst ((rows0 ss).map fun r => rowM (yRow r)), MV.lst ((rows0 ss).map fun r => rowM (zRow r))] : List MV) = othersM (rows0 ss) := by
    simp [othersM, othersL, rowsM]
  rw [eo]
  refine iter_tuple ?_
  have wT : ∀ p, wf (S0 (rows0 ss) ++ [.sem (tupIt (othersM (rows0 ss)) p)]) := fun p => hw.app fun k _ => by simp only [MO.ok, tupIt, objSem]; exact othersM_ok _ _
  have H := S0_rows hsh (by omega)
  refine loop_ind (fun m loc' σ' => ∃ p, m = 7 - p ∧ p ≤ 7 ∧ loc' = L2 ss L ∧ σ' = S0 (rows0 ss) ++ [.sem (tupIt (othersM (rows0 ss)) p)]) ?_ 7 ⟨0, rfl, Nat.zero_le _, rfl, rfl⟩
  rintro m loc' σ' ⟨p, rfl, hp7, rfl, rfl⟩
  refine nxt_tuple (by omega) (lookup_last _ _) (fun mv hm => ?_) (fun hm => ?_)
  · rw [set_last]
    rw [othersM, List.getElem?_map, Option.map_eq_some_iff] at hm
    obtain ⟨o, ho, rfl⟩ := hm
    have hpl : p < 7 := (List.getElem?_eq_some_iff.mp ho).1
    obtain ⟨hoo, ho5⟩ := othersL_ok hin hlen o (List.mem_of_getElem? ho)
    have H2 := H.app [.sem (tupIt (othersM (rows0 ss)) (p + 1))]
    have w2 := wT (p + 1)
    refine as_name rfl ?_
    walk_at "mv"
    refine ⟨_, rfl, by walk_at "mv_keep", ?_⟩
    walk_at "mv"
    refine new_list F (by omega) w2 (by omega) hoo.clean ?_
    generalize hs2 : S0 (rows0 ss) ++ [MO.sem (tupIt (othersM (rows0 ss)) (p + 1))] = σ2 at H2 w2 ⊢
    have hl2 : σ2.length = 3 := by rw [← hs2]; rfl
    have H3 := (H2.app [.inst (some (σ2.length + 1))]).app [.list (rowsM o)]
    have HO : HasRows (σ2 ++ [.inst (some (σ2.length + 1))] ++ [.list (rowsM o)]) σ2.length (σ2.length + 1) o := ⟨mid2 _ _ _, last2 _ _ _, hoo.short, by omega⟩
    have w3 : wf (σ2 ++ [.inst (some (σ2.length + 1))] ++ [.list (rowsM o)]) := by
      rw [List.append_assoc]
      refine w2.apps fun k hk => ?_
      simp only [List.length_append, List.length_singleton, List.cons_append, List.nil_append, List.length_cons, List.length_nil] at hk
      simp only [List.cons_append, List.nil_append, List.all_cons, List.all_nil, Bool.and_true, Bool.and_eq_true]
      exact ⟨by simp only [MO.ok, decide_eq_true_eq]; omega, ok_rows k o⟩
    generalize hs3 : σ2 ++ [MO.inst (some (σ2.length + 1))] ++ [MO.list (rowsM o)] = σ3 at H3 HO w3 ⊢
    refine op_eq_inst FX.toSf H3.inst HO.inst (by omega) ?_
    refine c_eq F (by omega) H3 HO w3 hlen ho5 fun q hq => ⟨q, rfl, ?_⟩
    walk_at "mv"
    refine ⟨_, rfl, by walk_at "mv_keep", ?_⟩
    walk_at "mv"
    refine ⟨_, rfl, by walk_at "mv_keep", ?_⟩
    refine evs_cons ?_ (fun _ => rfl)
    refine ev_comp_rows (rows := o) (fun r => rowM (lowRow r)) [] rfl capL_nil (fun _ _ => rfl) (by omega) rfl rfl rfl rfl (fun K' hK => ?_) (fun k _ => rfl) w3 (by omega) (fun _ _ => rfl) (fun r hr τ _ _ K' hK => ?_) ?_
    · walk_at "mv"; exact hK
    · walk_at "mv"
      refine ⟨_, getM_lower, by walk_at "mv_keep", ?_⟩
      walk_at "mv"
      refine call_lower ((hoo.short r hr).1) ?_
      walk_at "mv"
      exact ⟨by simp, hK⟩
    have e : o.map (fun r => rowM (lowRow r)) = rowsM (o.map lowRow) := by simp [rowsM]
    rw [e]
    walk_at "mv"
    refine call_set_rows (by omega) (by rw [List.length_map]; omega) w3 ?_
    walk_at "mv"
    refine call_sorted_set (by omega) (by have := dedup_len (o.map lowRow); rw [List.length_map] at this; omega) fun L' hp' hr' => ?_
    walk_at "mv"
    refine op_eq_rows (by omega) (low_ok hoo hp') (low_ok hin.o hp) ?_
    have hqq : q = decide (L' = L) := by
      rw [lowSet_eq, lowSet_eq] at hq
      have := hq.trans (sets_law (dedup_nodup _) (dedup_nodup _) hp hp' hr hr')
      cases q with
      | true => exact (decide_eq_true (this.mp rfl)).symm
      | false => exact (decide_eq_false fun e => by have := this.mpr e; cases this).symm
    refine op_ne_bool (by omega) ?_
    rw [hqq, bne_self_eq_false]
    refine tst_bool ?_
    refine ⟨nofun, fun _ => ?_⟩
    walk_at "mv"
    refine ⟨7 - (p + 1), by omega, 3, L2 ss L, by simp [S0], sub_cons rfl (SubL.refl _), ?_, ?_, p + 1, rfl, by omega, rfl, ?_⟩
    · simp [L2, L1, locOk, MV.ok, ok_rows, strsM_ok, intsM_ok]
    · rw [← hs3, List.append_assoc, ← hl2, List.take_left]; exact w2 _ (Nat.le_refl _)
    · rw [← hs3, ← hs2]; rfl
  · have e3 : p = 7 := by
      rw [List.getElem?_eq_none_iff] at hm
      have : (othersM (rows0 ss)).length = 7 := rfl
      omega
    subst e3
    rw [set_last]
    refine exs_nil ?_
    refine ⟨2, L2 ss L, Nat.le_refl _, SubL.refl _, by simp [L2, L1, locOk, MV.ok, ok_rows, strsM_ok, intsM_ok], hw _ (Nat.le_refl _), h⟩
end
end
section
open PySem PySem.W PyProof.Rows
section
variable {W : Wd} {Kf : Frag} {σ : Hp} {n : Nat} {K : Fl → Loc → Hp → Prop} {KE : Xc → Loc → Hp → Prop}

def deedsOf (ss : List Int) : List Int := if 5 < ss.length then (ss.drop 5).take 14 else [0, 4, 10, 7, 27, 2]
theorem deeds_len (ss : List Int) : (deedsOf ss).length ≤ 14 := by
  unfold deedsOf
  split
  · rw [List.length_take]; omega
  · simp
theorem slice519 {ss : List Int} (h : 5 < ss.length) : ((intsM ss).drop (kms_lo (some 5) (intsM ss).length)).take (kms_hi (some 19) (intsM ss).length - kms_lo (some 5) (intsM ss).length) = intsM (deedsOf ss) := by
  have hl : (intsM ss).length = ss.length := by rw [intsM, List.length_map]
  rw [hl]
  have e1 : kms_lo (some 5) ss.length = 5 := by simp [kms_lo]; omega
  have e2 : kms_hi (some 19) ss.length = min 19 ss.length := by simp [kms_hi]
  unfold deedsOf
  rw [e1, e2, if_pos h]
  simp only [intsM, List.map_take, List.map_drop]
  rw [List.take_eq_take_iff, List.length_drop, List.length_map]
  omega
def L3 (ss : List Int) (L : List Row) : Loc := ("deeds", .lst (intsM (deedsOf ss))) :: L2 ss L

theorem law_d (F : Pr W Kf) (hn : n ≤ 2) {ss : List Int} {L : List Row} (hz : ss.length ≤ 63)
    (h : ExsP W n lawSc (lawBody.drop 8) (L3 ss L) (S0 (rows0 ss)) K KE) : ExsP W n lawSc (lawBody.drop 6) (L2 ss L) (S0 (rows0 ss)) K KE := by
  have FX := F.toSx
  have hin := rows0_in ss
  have hlen := rows0_len ss
  have hw := S0_ok (rows0 ss)
  have H := S0_rows hin.o.short (by omega)
  refine exs_cons ?_
  refine ex_if ?_
  walk_at "mv"
  refine ⟨_, rfl, by walk_at "mv_keep", ?_⟩
  walk_at "mv"
  refine c_law_like F (by omega) H hw (by omega) hin.r.goods ?_
  refine tst_bool ?_
  refine ⟨nofun, fun _ => ?_⟩
  refine exs_nil ?_
  dsimp only
  refine exs_cons ?_
  refine ex_assign ?_ (fun _ _ => rfl) (fun _ _ => rfl) (fun _ => rfl)
  refine ev_ifexp ?_
  walk_at "mv"
  refine ⟨_, rfl, by walk_at "mv_keep", ?_⟩
  walk_at "mv"
  have hl : (intsM ss).length = ss.length := by rw [intsM, List.length_map]
  refine call_len (l := intsM ss) rfl (by rw [hl]; omega) ?_
  walk_at "mv"
  refine op_gt_int ?_
  refine tst_bool ?_
  refine ⟨fun hb => ?_, fun hb => ?_⟩
  · have h5 : 5 < ss.length := by rw [hl] at hb; simp at hb; omega
    walk_at "mv"
    refine ev_slice ?_
    refine evo_some ?_
    walk_at "mv"
    refine evo_some ?_
    walk_at "mv"
    refine ⟨some 5, some 19, rfl, rfl, ?_⟩
    refine sub_slice (l := intsM ss) rfl (by rw [hl]; omega) ?_
    rw [slice519 h5]
    refine as_name rfl ?_
    exact h
  · have h5 : ¬ 5 < ss.length := by rw [hl] at hb; simp at hb; omega
    refine ev_list ?_
    walk_at "mv"
    refine ⟨by simp, ?_⟩
    refine as_name rfl ?_
    have e : deedsOf ss = [0, 4, 10, 7, 27, 2] := by unfold deedsOf; rw [if_neg h5]
    unfold L3 at h
    rw [e] at h
    exact h
end
end
section
open PySem PySem.W PyProof.Rows
section
variable {W : Wd} {σ : Hp} {n : Nat} {sc : Scope} {loc loc' : Loc} {K : Fl → Loc → Hp → Prop} {KE : Xc → Loc → Hp → Prop}
/-- fewer names -/
theorem exs_sub {sts : List Stmt} (hs : SubL loc' loc) (h : ExsP W n sc sts loc' σ K KE) : ExsP W n sc sts loc σ K KE := by with_unfolding_all exact (fun c g ρ s C G => h c g ρ s C (G.weaken hs))
theorem ex_sub {st : Stmt} (hs : SubL loc' loc) (h : ExP W n sc st loc' σ K KE) : ExP W n sc st loc σ K KE := by with_unfolding_all exact (fun c g ρ s C G => h c g ρ s C (G.weaken hs))
theorem sub_of (h : ∀ p ∈ loc', loc.lookup p.1 = some p.2) : SubL loc' loc := fun x m e => h (x, m) (mem_of_lookup e)
end
section
variable {W : Wd} {Kf : Frag} {σ : Hp} {n : Nat} {K : Fl → Loc → Hp → Prop} {KE : Xc → Loc → Hp → Prop}

def L4 (ss : List Int) (rows : List Row) : Loc := [("rows", .lst (rowsM rows)), ("deeds", .lst (intsM (deedsOf ss))), ("headers", .obj 0), ("names", .lst (strsM namesL))]
structure Deed where
  deed : Int
  number : Int
  name : Str
  value : Str
  other : Str
def L5 (ss : List Int) (rows : List Row) (d : Deed) (x : Int) : Loc :=
  ("here", .lst (intsM (natsI (hitsTo d.name rows rows.length)))) :: ("other", .str d.other) :: ("value", .str d.value) :: ("name", .str d.name) :: ("number", .int d.number) :: ("deed", .int d.deed) :: ("k", .int x) :: L4 ss rows

def lawLoop : Stmt := (lawBody[8]?).getD (.Pass default)
def turnBody : List Stmt := match lawLoop with
  | .For _ _ b _ _ => b
  | _ => []
def thenOf : Stmt → List Stmt
  | .If _ a _ _ => a
  | _ => []
def elseOf : Stmt → Stmt
  | .If _ _ b _ => (b[0]?).getD (.Pass default)
  | s => s
def chain : Nat → Stmt
  | 0 => (turnBody[3]?).getD (.Pass default)
  | i + 1 => elseOf (chain i)

/-- what a deed gives -/
structure DeedOk (d : Deed) : Prop where
  name : d.name ∈ namesL
  value : d.value ∈ valsR
  other : d.other ∈ valsR
  num : d.value = Str.empty ∨ d.value = decS (d.number.fmod 5)
def TurnK (ss : List Int) (rows : List Row) (it : MO) (K : Fl → Loc → Hp → Prop) : Prop := ∀ rows' ext loc', InRs rows' → rows'.length ≤ rows.length + 5 → wf (S0 rows' ++ [it] ++ ext) → SubL (L4 ss rows') loc' → K .next loc' (S0 rows' ++ [it] ++ ext)
def ItOk (it : MO) : Prop := ∀ k, 2 ≤ k → it.ok k = true
def TurnOk (W : Wd) (n : Nat) (st : List Stmt) : Prop := ∀ (ss : List Int) (rows : List Row) (it : MO) (d : Deed) (x : Int) (K : Fl → Loc → Hp → Prop) (KE : Xc → Loc → Hp → Prop), InRs rows → rows.length ≤ 40 → DeedOk d → ItOk it → TurnK ss rows it K →
  ExsP W n lawSc st (L5 ss rows d x) (S0 rows ++ [it]) K KE

def TurnS (W : Wd) (n : Nat) (st : Stmt) : Prop := ∀ (ss : List Int) (rows : List Row) (it : MO) (d : Deed) (x : Int) (K : Fl → Loc → Hp → Prop) (KE : Xc → Loc → Hp → Prop), InRs rows → rows.length ≤ 40 → DeedOk d → ItOk it → TurnK ss rows it K →
  ExP W n lawSc st (L5 ss rows d x) (S0 rows ++ [it]) K KE

theorem wf_it {rows : List Row} {it : MO} (h : ItOk it) : wf (S0 rows ++ [it]) := (S0_ok rows).app fun k hk => h k (by have : (S0 rows).length = 2 := rfl; omega)
theorem L4_ok (k : Nat) (hk : 1 ≤ k) (ss : List Int) (rows : List Row) : locOk k (L4 ss rows) = true := by
  simp [L4, locOk, MV.ok, ok_rows, strsM_ok, intsM_ok]; omega

theorem small_all : ∀ d ∈ List.range 15, Builtin.Range.small 0 ((d : Int) - 1) 2 = true ∧ Builtin.Range.rangeSize 0 ((d : Int) - 1) 2 = ((d / 2 : Nat) : Int) := by decide +kernel
end
end
section
open PySem PySem.W PyProof.Rows
section
variable {W : Wd} {Kf : Frag} {σ : Hp} {n : Nat} {K : Fl → Loc → Hp → Prop} {KE : Xc → Loc → Hp → Prop}

theorem str_empty : (Str.ofString "" : Str) = Str.empty := rfl
theorem empty_in : Str.empty ∈ valsR := .head _

theorem law_e (F : Pr W Kf) (hn : n ≤ 2) {ss : List Int} {L : List Row} (hd : TurnS W n (chain 0))
    (hK : ∀ loc τ, K (.ret (.bool true)) loc τ) : ExsP W n lawSc (lawBody.drop 8) (L3 ss L) (S0 (rows0 ss)) K KE := by
  have FX := F.toSx
  have hin := rows0_in ss
  have hlen := rows0_len ss
  have hdl := deeds_len ss
  have hw := S0_ok (rows0 ss)
  have hil : (intsM (deedsOf ss)).length = (deedsOf ss).length := by rw [intsM, List.length_map]
  obtain ⟨hsm, hrs⟩ := small_all (deedsOf ss).length (List.mem_range.mpr (by omega))
  refine exs_sub (loc' := L4 ss (rows0 ss)) (sub_of fun p hp => ?_) ?_
  · simp only [L4, List.mem_cons, List.not_mem_nil, or_false] at hp
    rcases hp with rfl | rfl | rfl | rfl <;> rfl
  refine exs_cons ?_
  refine ex_for ?_ (fun _ _ => rfl)
  walk_at "mv"
  refine ⟨_, rfl, by walk_at "mv_keep", ?_⟩
  walk_at "mv"
  refine ⟨_, rfl, by walk_at "mv_keep", ?_⟩
  walk_at "mv"
  refine call_len (l := intsM (deedsOf ss)) rfl (by rw [hil]; omega) ?_
  rw [hil]
  walk_at "mv"
  refine op_sub_int ?_
  walk_at "mv"
  refine call_range3 (by decide) (by decide) ?_
  refine iter_range hsm ?_
  rw [hrs]
  generalize hN : (deedsOf ss).length / 2 = N
  have hN7 : N ≤ 7 := by omega
  refine loop_ind (fun m loc' σ' => ∃ p rows, m = N - p ∧ p ≤ N ∧ InRs rows ∧ rows.length ≤ 4 + 5 * p ∧ loc' = L4 ss rows ∧ σ' = S0 rows ++ [.sem (rngIt (2 * (p : Int)) ((N : Int) - p) 2)]) ?_ N ⟨0, rows0 ss, rfl, Nat.zero_le _, hin.r, by omega, rfl, by simp⟩
  rintro m loc' σ' ⟨p, rows, rfl, hp, hrows, hrl, rfl, rfl⟩
  refine nxt_range (by omega) (lookup_last _ _) (fun hm => ?_) (fun hm => ?_)
  · have eset : ∀ x y : MO, (S0 rows ++ [x]).set (S0 (rows0 ss)).length y = S0 rows ++ [y] := fun _ _ => rfl
    rw [eset]
    have hpN : p < N := by omega
    have hp2 : 2 * p + 1 < (deedsOf ss).length := by omega
    obtain ⟨d0, hd0⟩ : ∃ d, (deedsOf ss)[2 * p]? = some d := ⟨(deedsOf ss)[2 * p], List.getElem?_eq_getElem (by omega)⟩
    obtain ⟨d1, hd1⟩ : ∃ d, (deedsOf ss)[2 * p + 1]? = some d := ⟨(deedsOf ss)[2 * p + 1], List.getElem?_eq_getElem hp2⟩
    have g0 : (intsM (deedsOf ss))[2 * p]? = some (.int d0) := by rw [intsM, List.getElem?_map, hd0]; rfl
    have g1 : (intsM (deedsOf ss))[2 * p + 1]? = some (.int d1) := by rw [intsM, List.getElem?_map, hd1]; rfl
    generalize hit : MO.sem (rngIt (2 * (p : Int) + 2) ((N : Int) - p - 1) 2) = it
    have itok : ItOk it := fun k _ => by rw [← hit]; rfl
    have wI := wf_it (rows := rows) itok
    refine as_name rfl ?_
    refine exs_cons ?_
    refine ex_assign ?_ (fun env h => by cases env; cases h; rfl) (fun env h => by cases env; cases h; rfl) (fun _ => rfl)
    walk_at "mv"
    refine sub_list_int (l := intsM (deedsOf ss)) (j := 2 * p) rfl (by rw [hil]; omega) (.inl ⟨by omega, by omega⟩) g0 ?_
    walk_at "mv"
    refine op_mod_int (by decide) ?_
    walk_at "mv"
    refine op_add_int ?_
    refine sub_list_int (l := intsM (deedsOf ss)) (j := 2 * p + 1) rfl (by rw [hil]; omega) (.inl ⟨by omega, by omega⟩) g1 ?_
    walk_at "mv"
    refine ⟨by simp, ?_⟩
    refine as_tuple (by omega) rfl (fun _ => ⟨rfl, rfl⟩) ?_
    refine ass_cons ?_ (fun _ => rfl)
    refine as_name rfl ?_
    refine ass_cons ?_ (fun _ => rfl)
    refine as_name rfl ?_
    refine ass_nil ?_
    refine exs_cons ?_
    refine ex_assign ?_ (fun env h => by cases env; cases h; rfl) (fun env h => by cases env; cases h; rfl) (fun _ => rfl)
    have h1 := fmod_nn (a := d0.fdiv 10) (b := 4) (by decide)
    have h2 := fmod_nn (a := d1) (b := 5) (by decide)
    have h3 := fmod_nn (a := d1.fdiv 5) (b := 5) (by decide)
    walk_at "mv"
    refine sub_list_int (l := intsM (deedsOf ss)) (j := 2 * p) rfl (by rw [hil]; omega) (.inl ⟨by omega, by omega⟩) g0 ?_
    walk_at "mv"
    refine op_fdiv_int (by decide) (by decide) ?_
    walk_at "mv"
    refine op_mod_int (by decide) ?_
    refine sub_list_int (l := strsM namesL) (j := ((d0.fdiv 10).fmod 4).toNat) rfl (by simp [strsM, namesL]) (.inl ⟨h1.1, rfl⟩) (name_get (by omega)) ?_
    refine evs_cons ?_ (fun _ => rfl)
    obtain ⟨value, hval⟩ : ∃ v, v = if 0 < d1.fmod 7 then decS (d1.fmod 5) else Str.empty := ⟨_, rfl⟩
    have hv1 : value ∈ valsR := by
      rw [hval]
      split
      · exact dec_in h2.1 h2.2
      · exact empty_in
    have hv2 : value = Str.empty ∨ value = decS (d1.fmod 5) := by
      rw [hval]
      split
      · exact .inr rfl
      · exact .inl rfl
    refine EvP.mono (K := fun m τ => m = .str value ∧ τ = S0 rows ++ [it]) ?_ ?_ (fun _ _ x => x)
    · walk_at "mv"
      refine op_mod_int (by decide) ?_
      walk_at "mv"
      refine op_gt_int ?_
      refine tst_bool ?_
      refine ⟨fun hb => ?_, fun hb => ?_⟩
      · walk_at "mv"
        refine ⟨_, rfl, by walk_at "mv_keep", ?_⟩
        walk_at "mv"
        refine op_mod_int (by decide) ?_
        walk_at "mv"
        refine call_str_int (by omega) ?_
        rw [hval, if_pos (by simpa using hb)]
        exact ⟨rfl, rfl⟩
      · walk_at "mv"
        rw [hval, if_neg (by simpa using hb)]
        exact ⟨rfl, rfl⟩
    rintro _ _ ⟨rfl, rfl⟩
    walk_at "mv"
    refine ⟨_, rfl, by walk_at "mv_keep", ?_⟩
    walk_at "mv"
    refine op_fdiv_int (by decide) (by decide) ?_
    walk_at "mv"
    refine op_mod_int (by decide) ?_
    walk_at "mv"
    refine call_str_int (by omega) ?_
    walk_at "mv"
    refine ⟨by simp, ?_⟩
    refine as_tuple (by omega) rfl (fun _ => ⟨rfl, rfl⟩) ?_
    refine ass_cons ?_ (fun _ => rfl)
    refine as_name rfl ?_
    refine ass_cons ?_ (fun _ => rfl)
    refine as_name rfl ?_
    refine ass_cons ?_ (fun _ => rfl)
    refine as_name rfl ?_
    refine ass_nil ?_
    generalize hname : namesL.getD ((d0.fdiv 10).fmod 4).toNat default = name
    have hname' : name ∈ namesL := by rw [← hname]; exact name_in (by omega)
    have hnl : name.length ≤ 100000 := by
      have := (keys_all name (List.mem_append_left _ (List.mem_append_left _ hname')))
      simp only [Bool.and_eq_true, decide_eq_true_eq] at this
      omega
    refine exs_cons ?_
    refine ex_assign ?_ (fun env h => by cases env; cases h; rfl) (fun env h => by cases env; cases h; rfl) (fun _ => rfl)
    refine ev_comp_range (N := rows.length) [("name", .str name), ("rows", .lst (rowsM rows))] rfl (capL_cons rfl rfl (capL_cons rfl rfl capL_nil)) (fun _ _ => rfl) (by omega) (fun K' hK => ?_) (fun k _ => by simp [locOk, MV.ok, ok_rows]) wI (by omega)
      (fun q => intsM (natsI (hitsTo name rows q))) rfl (fun q hq => ⟨by have := hitsTo_len name rows q; simp only [intsM, natsI, List.length_map]; omega, fun k => intsM_ok k _⟩) (fun q hq τ hwτ hx => ?_) ?_
    · walk_at "mv"
      refine ⟨_, rfl, by walk_at "mv_keep", ?_⟩
      walk_at "mv"
      refine ⟨_, rfl, by walk_at "mv_keep", ?_⟩
      walk_at "mv"
      refine call_len (l := rowsM rows) rfl (by rw [rowsM_len]; omega) ?_
      rw [rowsM_len]
      walk_at "mv"
      exact call_range1 hK
    · refine aq_name rfl ?_
      refine ⟨rfl, sub_cons rfl (SubL.refl _), ?_⟩
      refine tests_one ?_
      obtain ⟨row, hrow⟩ : ∃ row, rows[q]? = some row := ⟨rows[q], List.getElem?_eq_getElem hq⟩
      have hrs := hrows.goods.short row (List.mem_of_getElem? hrow)
      walk_at "mv"
      refine sub_list_int (l := rowsM rows) (j := q) (m := rowM row) rfl (by rw [rowsM_len]; omega) (.inl ⟨by omega, by omega⟩) (by rw [rowsM_get, hrow]; rfl) ?_
      walk_at "mv"
      refine sub_tup (k := 0) (m := .str row.1) (by simp) rfl ?_
      refine ⟨_, getM_lower, keep_builtin _, ?_⟩
      walk_at "mv"
      refine call_lower hrs.1 ?_
      walk_at "mv"
      refine ⟨_, getM_lower, keep_builtin _, ?_⟩
      walk_at "mv"
      refine call_lower hnl ?_
      walk_at "mv"
      refine op_eq_str ?_
      refine tst_bool ?_
      have eh : hitAt name rows q = (low row.1 == low name) := by unfold hitAt; rw [hrow]; rfl
      refine ⟨rfl, fun hb => ?_, fun hb => ?_⟩
      · walk_at "mv"
        refine ⟨rfl, ?_⟩
        rw [hitsTo_succ, eh, show (low row.1 == low name) = true from hb]
        simp [plus, intsM, natsI]
      · rw [hitsTo_succ, eh, show (low row.1 == low name) = false from hb]
        rfl
    refine as_name rfl ?_
    refine exs_cons ?_
    refine hd ss rows it ⟨d0.fmod 10, d1, name, value, decS ((d1.fdiv 5).fmod 5)⟩ (2 * (p : Int)) _ _ hrows (by omega) ⟨hname', hv1, dec_in h3.1 h3.2, hv2⟩ itok ?_
    intro rows' ext loc' hr' hl' hw' hs'
    have hl' : rows'.length ≤ rows.length + 5 := hl'
    dsimp only
    refine exs_sub hs' ?_
    have H' : HasRows (S0 rows' ++ [it] ++ ext) 0 1 rows' := ((S0_rows hr'.goods.short (by omega)).app [it]).app ext
    refine exs_cons ?_
    refine ex_if ?_
    walk_at "mv"
    refine ⟨_, rfl, by walk_at "mv_keep", ?_⟩
    walk_at "mv"
    refine c_law_like F (by omega) H' hw' (by omega) hr'.goods ?_
    refine tst_bool ?_
    refine ⟨nofun, fun _ => ?_⟩
    refine exs_nil ?_
    dsimp only
    refine exs_nil ?_
    dsimp only
    have e3 : (S0 rows' ++ [it] ++ ext).take 3 = S0 rows' ++ [it] := rfl
    refine ⟨N - (p + 1), by omega, 3, L4 ss rows', by simp [S0], SubL.refl _, L4_ok 3 (by omega) _ _, ?_, p + 1, rows', rfl, by omega, hr', by omega, rfl, ?_⟩
    · rw [e3]; exact wf_it itok 3 (Nat.le_refl _)
    · rw [e3, ← hit, show 2 * ((p + 1 : Nat) : Int) = 2 * (p : Int) + 2 by omega, show (N : Int) - ((p + 1 : Nat) : Int) = (N : Int) - p - 1 by omega]
  · refine exs_nil ?_
    walk_at "mv"
    exact hK _ _
end
end
section
open PySem PySem.W PyProof.Rows
section
variable {W : Wd} {Kf : Frag} {σ : Hp} {n : Nat} {K : Fl → Loc → Hp → Prop} {KE : Xc → Loc → Hp → Prop}

theorem InRs.app {a b : List Row} (h : InRs a) (h' : InRs b) : InRs (a ++ b) := fun r hr => by
  rcases List.mem_append.mp hr with q | q
  · exact h r q
  · exact h' r q
theorem InRs.one {r : Row} (h : InR r) : InRs [r] := fun x hx => by rw [List.mem_singleton] at hx; subst hx; exact h
theorem InRs.set {rows : List Row} {k x : Str} (h : InRs rows) (h' : InR (k, x)) : InRs (setRows k x rows) := fun r hr => by
  rcases setRows_mem hr with rfl | q
  · exact h'
  · exact h r q
theorem InRs.drop {rows : List Row} {k : Str} (h : InRs rows) : InRs (dropKey k rows) := fun r hr => h r (List.mem_filter.mp hr).1
theorem names_sub {k : Str} (h : k ∈ namesL) : k ∈ keysR := List.mem_append_left _ h
section
variable {d : Deed}
theorem DeedOk.row (h : DeedOk d) : InR (d.name, d.value) := ⟨names_sub h.name, h.value⟩
theorem DeedOk.row2 (h : DeedOk d) : InR (d.name, d.other) := ⟨names_sub h.name, h.other⟩
theorem DeedOk.kl (h : DeedOk d) : d.name.length ≤ 100000 := by have := h.row.good.kl; exact Nat.le_trans this (by decide)
theorem DeedOk.pv (h : DeedOk d) : Plain d.value := h.row.good.pl
theorem DeedOk.po (h : DeedOk d) : Plain d.other := h.row2.good.pl
end
theorem at_rows {rows : List Row} {it : MO} (h : InRs rows) (hl : rows.length ≤ 40) : HasRows (S0 rows ++ [it]) 0 1 rows := (S0_rows h.goods.short (by omega)).app [it]
theorem put_rows (rows rows' : List Row) (it : MO) : (S0 rows ++ [it]).set 1 (.list (rowsM rows')) = S0 rows' ++ [it] := rfl
theorem turn_end {ss : List Int} {rows rows' : List Row} {it : MO} {loc : Loc} (hk : TurnK ss rows it K) (hi : ItOk it) (h : InRs rows') (hl : rows'.length ≤ rows.length + 5) (hs : SubL (L4 ss rows') loc) : K .next loc (S0 rows' ++ [it]) := by
  have := hk rows' [] loc h hl (by rw [List.append_nil]; exact wf_it hi) hs
  rw [List.append_nil] at this
  exact this
/-- of one deed -/
def TurnD (W : Wd) (n : Nat) (i : Int) (st : List Stmt) : Prop := ∀ (ss : List Int) (rows : List Row) (it : MO) (d : Deed) (x : Int) (K : Fl → Loc → Hp → Prop) (KE : Xc → Loc → Hp → Prop), InRs rows → rows.length ≤ 40 → DeedOk d → ItOk it → TurnK ss rows it K →
  ExsP W n lawSc st (L5 ss rows d x) (S0 rows ++ [it]) K KE

theorem L4_sub {ss : List Int} {rows : List Row} {loc : Loc} (h1 : List.lookup (Str.ofString "rows") loc = some (.lst (rowsM rows))) (h2 : List.lookup (Str.ofString "deeds") loc = some (.lst (intsM (deedsOf ss)))) (h3 : List.lookup (Str.ofString "headers") loc = some (.obj 0)) (h4 : List.lookup (Str.ofString "names") loc = some (.lst (strsM namesL))) : SubL (L4 ss rows) loc := by
  refine sub_of fun p hp => ?_
  simp only [L4, List.mem_cons, List.not_mem_nil, or_false] at hp
  rcases hp with rfl | rfl | rfl | rfl
  · exact h1
  · exact h2
  · exact h3
  · exact h4

theorem deed0 (F : Pr W Kf) (hn : n ≤ 2) : TurnD W n 0 (thenOf (chain 0)) := by
  intro ss rows it d x K KE hr hl hd hi hk
  have FX := F.toSx
  have hw := wf_it (rows := rows) hi
  have H := at_rows (it := it) hr hl
  refine exs_cons ?_
  refine ex_expr ?_ (fun _ => rfl)
  walk_at "mv"
  refine meth_at FX 429 H.inst ?_
  refine evs_cons ?_ (fun _ => rfl)
  refine ev_local rfl rfl rfl ?_
  refine evs_cons ?_ (fun _ => rfl)
  refine EvP.mono (K := fun m τ => ValIs m d.value ∧ τ = S0 rows ++ [it]) ?_ ?_ (fun _ _ x => x)
  · walk_at "mv"
    refine op_ne_str ?_
    refine tst_bool ?_
    have h2 := fmod_nn (a := d.number) (b := 5) (by decide)
    refine ⟨fun hb => ?_, fun hb => ?_⟩
    · walk_at "mv"
      refine op_mod_int (by decide) ?_
      refine ⟨?_, rfl⟩
      have e : d.value = decS (d.number.fmod 5) := by
        rcases hd.num with q | q
        · rw [q] at hb; simp [str_empty] at hb
        · exact q
      rw [e]
      exact .int _ (by omega)
    · walk_at "mv"
      exact ⟨.str _, rfl⟩
  rintro m _ ⟨hm, rfl⟩
  walk_at "mv"
  refine c_add FX F.re F.f543 F.f429 (by omega) H hw (by omega) hm hd.pv.1 (fun _ => ?_) (fun e => by cases e)
  rw [put_rows]
  refine ⟨rfl, ?_⟩
  walk_at "mv"
  refine ev_list ?_
  walk_at "mv"
  refine ⟨by simp, ?_⟩
  walk_at "mv"
  refine ⟨by simp, ?_⟩
  refine op_add_lists (l := rowsM rows) (l' := rowsM [(d.name, d.value)]) rfl rfl (by rw [rowsM_len]; simp [rowsM]; omega) ?_
  rw [show rowsM rows ++ rowsM [(d.name, d.value)] = rowsM (rows ++ [(d.name, d.value)]) by simp [rowsM]]
  refine as_name rfl ?_
  refine exs_nil ?_
  exact turn_end hk hi (hr.app (.one hd.row)) (by simp) (L4_sub rfl rfl rfl rfl)
end
end
section
open PySem PySem.W PyProof.Rows
section
variable {W : Wd} {Kf : Frag} {σ : Hp} {n : Nat} {K : Fl → Loc → Hp → Prop} {KE : Xc → Loc → Hp → Prop}

theorem deed1 (F : Pr W Kf) (hn : n ≤ 2) : TurnD W n 1 (thenOf (chain 1)) := by
  intro ss rows it d x K KE hr hl hd hi hk
  have FX := F.toSx
  have hw := wf_it (rows := rows) hi
  have H := at_rows (it := it) hr hl
  have hsl := setRows_len (key := d.name) (x := d.value) rows
  walk_at "mv"
  refine as_sub ?_
  walk_at "mv"
  refine setItem_inst F.toSy H.inst ?_
  refine c_setitem_str F (by omega) hd.kl H hw (by omega) hd.pv.1 (fun _ => ?_) (fun e => by cases e)
  rw [put_rows]
  walk_at "mv"
  refine ⟨_, rfl, by walk_at "mv_keep", ?_⟩
  walk_at "mv"
  refine c_law_set F (by omega) hd.kl hr.goods.short (by omega) (wf_it hi) ?_
  refine as_name rfl ?_
  refine exs_nil ?_
  exact turn_end hk hi (hr.set hd.row) (by omega) (L4_sub rfl rfl rfl rfl)

theorem deed2 (F : Pr W Kf) (hn : n ≤ 2) : TurnD W n 2 (thenOf (chain 2)) := by
  intro ss rows it d x K KE hr hl hd hi hk
  have FX := F.toSx
  have hw := wf_it (rows := rows) hi
  have H := at_rows (it := it) hr hl
  have hsl := setRows_len (key := d.name) (x := d.value) rows
  walk_at "mv"
  refine meth_at FX 455 H.inst ?_
  walk_at "mv"
  refine ev_list ?_
  walk_at "mv"
  refine ⟨by simp, ?_⟩
  walk_at "mv"
  refine c_setlist (xs := [d.other]) F (by omega) hd.kl H hw (by simp; omega) hd.pv (fun y hy => by rw [List.mem_singleton] at hy; subst hy; exact hd.po) ?_
  rw [put_rows]
  refine ⟨rfl, ?_⟩
  walk_at "mv"
  refine ⟨_, rfl, by walk_at "mv_keep", ?_⟩
  walk_at "mv"
  refine c_law_set F (by omega) hd.kl hr.goods.short (by omega) (wf_it hi) ?_
  walk_at "mv"
  refine ev_list ?_
  walk_at "mv"
  refine ⟨by simp, ?_⟩
  walk_at "mv"
  refine ⟨by simp, ?_⟩
  refine op_add_lists (l := rowsM (setRows d.name d.value rows)) (l' := rowsM [(d.name, d.other)]) rfl rfl (by rw [rowsM_len]; simp [rowsM]; omega) ?_
  rw [show rowsM (setRows d.name d.value rows) ++ rowsM [(d.name, d.other)] = rowsM (addAll d.name [d.other] (setRows d.name d.value rows)) by simp [rowsM, addAll]]
  refine as_name rfl ?_
  refine exs_nil ?_
  exact turn_end hk hi ((hr.set hd.row).app (.one hd.row2)) (by simp [addAll]; omega) (L4_sub rfl rfl rfl rfl)
end
end
section
open PySem PySem.W PyProof.Rows
section
variable {W : Wd} {Kf : Frag} {σ : Hp} {n : Nat} {K : Fl → Loc → Hp → Prop} {KE : Xc → Loc → Hp → Prop}

theorem find_hits {key : Str} {rows : List Row} {p0 : Nat} {tl : List Nat} (h : hitsTo key rows rows.length = p0 :: tl) : ∃ r, rows[p0]? = some r ∧ findRow key rows = some r := by
  obtain ⟨h1, h2, h3, _⟩ := hits_cons h
  refine ⟨rows[p0], List.getElem?_eq_getElem h1, find_at (p := p0) (fun r' hr' => ?_) (List.getElem?_eq_getElem h1) ?_⟩
  · obtain ⟨k, hk, rfl⟩ := List.mem_iff_getElem.mp hr'
    rw [List.length_take] at hk
    have := h3 k (by omega)
    unfold hitAt at this
    rw [List.getElem?_eq_getElem (by omega)] at this
    rw [List.getElem_take]
    exact this
  · unfold hitAt at h2
    rw [List.getElem?_eq_getElem h1] at h2
    exact h2
theorem find_none {key : Str} {rows : List Row} (h : hitsTo key rows rows.length = []) : findRow key rows = none := by
  unfold findRow
  rw [List.find?_eq_none]
  intro r hr
  rw [hits_nil h r hr]
  decide

theorem deed3 (F : Pr W Kf) (hn : n ≤ 2) : TurnD W n 3 (thenOf (chain 3)) := by
  intro ss rows it d x K KE hr hl hd hi hk
  have FX := F.toSx
  have hw := wf_it (rows := rows) hi
  have H := at_rows (it := it) hr hl
  have hvl := hd.pv.2
  cases e : hitsTo d.name rows rows.length with
  | nil =>
    have hf := find_none e
    have hset := setRows_no (x := d.value) (hits_nil e)
    unfold L5
    rw [e]
    refine exs_cons ?_
    refine ex_if ?_
    walk_at "mv"
    refine meth_at FX 462 H.inst ?_
    walk_at "mv"
    refine c_setdefault F (by omega) hd.kl hvl H hw (by omega) hd.pv.1 (fun r hfr => by rw [hf] at hfr; cases hfr) (fun _ => ?_)
    rw [hset, put_rows]
    walk_at "mv"
    refine ev_list ?_
    walk_at "mv"
    refine ⟨by simp, ?_⟩
    refine op_ne_ints (b := []) (by omega) ?_
    refine tst_bool ?_
    refine ⟨fun hb => by simp [natsI] at hb, fun _ => ?_⟩
    walk_at "mv"
    refine op_ne_str ?_
    rw [show (!d.value == d.value) = false by simp]
    refine tst_bool ?_
    refine ⟨nofun, fun _ => ?_⟩
    walk_at "mv"
    refine ev_list ?_
    walk_at "mv"
    refine ⟨by simp, ?_⟩
    refine op_ne_ints (b := []) (by omega) ?_
    refine tst_bool ?_
    refine ⟨fun hb => by simp [natsI] at hb, fun _ => ?_⟩
    walk_at "mv"
    refine ev_list ?_
    walk_at "mv"
    refine ⟨by simp, ?_⟩
    walk_at "mv"
    refine ⟨by simp, ?_⟩
    refine op_add_lists (l := rowsM rows) (l' := rowsM [(d.name, d.value)]) rfl rfl (by rw [rowsM_len]; simp [rowsM]; omega) ?_
    rw [show rowsM rows ++ rowsM [(d.name, d.value)] = rowsM (rows ++ [(d.name, d.value)]) by simp [rowsM]]
    refine as_name rfl ?_
    refine exs_nil ?_
    exact turn_end hk hi (hr.app (.one hd.row)) (by simp) (L4_sub rfl rfl rfl rfl)
  | cons p0 tl =>
    obtain ⟨r, hr0, hf⟩ := find_hits e
    have hp0 := (hits_cons e).1
    have hlz : (natsI (p0 :: tl)).length ≤ 100 := by
      have := hitsTo_len d.name rows rows.length
      rw [e] at this
      simp only [natsI, List.length_map]; omega
    have g0 : (intsM (natsI (p0 :: tl)))[0]? = some (.int p0) := rfl
    unfold L5
    rw [e]
    refine exs_cons ?_
    refine ex_if ?_
    walk_at "mv"
    refine meth_at FX 462 H.inst ?_
    walk_at "mv"
    refine c_setdefault F (by omega) hd.kl hvl H hw (by omega) hd.pv.1 (fun r' hfr => ?_) (fun hfn => by rw [hf] at hfn; cases hfn)
    rw [hf] at hfr
    cases hfr
    walk_at "mv"
    refine ev_list ?_
    walk_at "mv"
    refine ⟨by simp, ?_⟩
    refine op_ne_ints (b := []) (by omega) ?_
    refine tst_bool ?_
    refine ⟨fun _ => ?_, fun hb => by simp [natsI] at hb⟩
    walk_at "mv"
    refine sub_list_int (l := intsM (natsI (p0 :: tl))) (j := 0) rfl (by simp only [intsM, List.length_map]; omega) (.inl ⟨by omega, rfl⟩) g0 ?_
    refine sub_list_int (l := rowsM rows) (j := p0) (m := rowM r) rfl (by rw [rowsM_len]; omega) (.inl ⟨by omega, by omega⟩) (by rw [rowsM_get, hr0]; rfl) ?_
    walk_at "mv"
    refine sub_tup (k := 1) (m := .str r.2) (by simp) rfl ?_
    refine op_ne_str ?_
    rw [show (!r.2 == r.2) = false by simp]
    refine tst_bool ?_
    refine ⟨nofun, fun _ => ?_⟩
    walk_at "mv"
    refine ev_list ?_
    walk_at "mv"
    refine ⟨by simp, ?_⟩
    refine op_ne_ints (b := []) (by omega) ?_
    refine tst_bool ?_
    refine ⟨fun _ => ?_, fun hb => by simp [natsI] at hb⟩
    walk_at "mv"
    exact turn_end hk hi hr (by omega) (L4_sub rfl rfl rfl rfl)
end
end
section
open PySem PySem.W PyProof.Rows
section
variable {W : Wd} {Kf : Frag} {σ : Hp} {n : Nat} {sc scope : Scope} {loc : Loc}

theorem drop_snoc {key : Str} {rows : List Row} {q : Nat} {r : Row} (h : rows[q]? = some r) : dropKey key (rows.take (q + 1)) = if hitAt key rows q = true then dropKey key (rows.take q) else dropKey key (rows.take q) ++ [r] := by
  have eh : hitAt key rows q = (low r.1 == low key) := by unfold hitAt; rw [h]; rfl
  rw [List.take_add_one, h, eh]
  simp only [dropKey, Option.toList_some, List.filter_append, List.filter_cons, List.filter_nil]
  cases hb : (low r.1 == low key) <;> simp

/-- the rows but those of a key -/
theorem ev_drop {K : MV → Hp → Prop} {KE : Xc → Hp → Prop} {rows : List Row} {key : Str} {elt iter test : Expr} {k : Str} {p1 pos : Pos} (hn : n ≤ 40) (hl : rows.length ≤ 900) (hok : compOk sc scope = true)
    (hcap : CapL sc scope [("here", .lst (intsM (natsI (hitsTo key rows rows.length)))), ("rows", .lst (rowsM rows))] loc) (hs : ∀ env x, foldedSetIterable iter env x = pure x)
    (hk : (compScope sc scope).names.lookup k = some .local) (hkl : List.lookup k ([("here", .lst (intsM (natsI (hitsTo key rows rows.length)))), ("rows", .lst (rowsM rows))] : Loc) = none)
    (hit : ∀ K' : MV → Hp → Prop, K' (.fz (rngF 0 (rows.length : Int) 1)) σ → EvP W n sc iter loc σ K' KE) (hw : wf σ)
    (ht : ∀ (q : Nat) τ, ∀ K' : Bool → Hp → Prop, K' (!decide ((q : Int) ∈ natsI (hitsTo key rows rows.length))) τ → TsP W n (compScope sc scope) test [(k, .int (q : Nat)), ("here", .lst (intsM (natsI (hitsTo key rows rows.length)))), ("rows", .lst (rowsM rows))] τ K' NE)
    (he : ∀ (q : Nat) r τ, rows[q]? = some r → ∀ K' : MV → Hp → Prop, K' (rowM r) τ → EvP W n (compScope sc scope) elt [(k, .int (q : Nat)), ("here", .lst (intsM (natsI (hitsTo key rows rows.length)))), ("rows", .lst (rowsM rows))] τ K' NE)
    (hK : K (.lst (rowsM (dropKey key rows))) σ) : EvP W n sc (.ListComp elt [⟨.Name k p1, iter, [test], 0⟩] scope pos) loc σ K KE := by
  refine ev_comp_range (N := rows.length) [("here", .lst (intsM (natsI (hitsTo key rows rows.length)))), ("rows", .lst (rowsM rows))] hok hcap hs (by omega) hit (fun k _ => by simp [locOk, MV.ok, ok_rows, intsM_ok]) hw (by omega)
    (fun q => rowsM (dropKey key (rows.take q))) rfl (fun q hq => ⟨by have := dropKey_len key (rows.take q); rw [List.length_take] at this; rw [rowsM_len]; omega, fun k => ok_rows k _⟩) (fun q hq τ hwτ hx => ?_) ?_
  · obtain ⟨r, hr⟩ : ∃ r, rows[q]? = some r := ⟨rows[q], List.getElem?_eq_getElem hq⟩
    refine aq_name hk ?_
    refine ⟨rfl, sub_cons hkl (SubL.refl _), ?_⟩
    refine tests_one ?_
    refine ht q τ _ ?_
    have em : ((q : Int) ∈ natsI (hitsTo key rows rows.length)) ↔ hitAt key rows q = true := by
      simp only [natsI, List.mem_map, hitsTo, List.mem_filter, List.mem_range]
      constructor
      · rintro ⟨a, ⟨_, ha⟩, e⟩
        rw [← Int.ofNat.inj e]; exact ha
      · intro h; exact ⟨q, ⟨hq, h⟩, rfl⟩
    have hd := drop_snoc (key := key) hr
    refine ⟨rfl, fun hb => ?_, fun hb => ?_⟩
    · refine he q r τ hr _ ⟨rfl, ?_⟩
      have hb' : ¬ hitAt key rows q = true := fun h => by rw [decide_eq_true (em.mpr h)] at hb; cases hb
      rw [hd, if_neg hb']
      simp [plus, rowsM]
    · have hb' : hitAt key rows q = true := by
        cases h : hitAt key rows q with
        | true => rfl
        | false =>
          have : ¬ ((q : Int) ∈ natsI (hitsTo key rows rows.length)) := fun z => by rw [em.mp z] at h; cases h
          rw [decide_eq_false this] at hb; cases hb
      rw [hd, if_pos hb']
      rfl
  · rw [List.take_length]; exact hK
end
section
variable {W : Wd} {Kf : Frag} {σ : Hp} {n : Nat} {K : Fl → Loc → Hp → Prop} {KE : Xc → Loc → Hp → Prop}

theorem deed4 (F : Pr W Kf) (hn : n ≤ 2) : TurnD W n 4 (thenOf (chain 4)) := by
  intro ss rows it d x K KE hr hl hd hi hk
  have FX := F.toSx
  have hw := wf_it (rows := rows) hi
  have H := at_rows (it := it) hr hl
  have hdl := dropKey_len d.name rows
  refine exs_cons ?_
  refine ex_expr ?_ (fun _ => rfl)
  walk_at "mv"
  refine meth_at FX 386 H.inst ?_
  walk_at "mv"
  refine c_remove FX F.f386 F.f379 (by omega) hd.kl H hw ?_
  rw [put_rows]
  refine ⟨rfl, ?_⟩
  refine exs_cons ?_
  refine ex_assign ?_ (fun env h => by cases env; cases h; rfl) (fun env h => by cases env; cases h; rfl) (fun _ => rfl)
  refine ev_drop (rows := rows) (key := d.name) (by omega) (by omega) rfl (capL_cons rfl rfl (capL_cons rfl rfl capL_nil)) (fun _ _ => rfl) rfl rfl (fun K' hK => ?_) (wf_it hi) (fun q τ K' hK => ?_) (fun q r τ hr0 K' hK => ?_) ?_
  · walk_at "mv"
    refine ⟨_, rfl, by walk_at "mv_keep", ?_⟩
    walk_at "mv"
    refine ⟨_, rfl, by walk_at "mv_keep", ?_⟩
    walk_at "mv"
    refine call_len (l := rowsM rows) rfl (by rw [rowsM_len]; omega) ?_
    rw [rowsM_len]
    walk_at "mv"
    exact call_range1 hK
  · walk_at "mv"
    refine op_notin_ints (by omega) ?_
    exact tst_bool hK
  · walk_at "mv"
    exact sub_list_int (l := rowsM rows) (j := q) (m := rowM r) rfl (by rw [rowsM_len]; omega) (.inl ⟨by omega, by omega⟩) (by rw [rowsM_get, hr0]; rfl) hK
  refine as_name rfl ?_
  refine exs_nil ?_
  exact turn_end hk hi hr.drop (by omega) (L4_sub rfl rfl rfl rfl)

theorem deed5 (F : Pr W Kf) (hn : n ≤ 2) : TurnD W n 5 (thenOf (chain 5)) := by
  intro ss rows it d x K KE hr hl hd hi hk
  have FX := F.toSx
  have hw := wf_it (rows := rows) hi
  have H := at_rows (it := it) hr hl
  have hdl := dropKey_len d.name rows
  cases e : hitsTo d.name rows rows.length with
  | nil =>
    have hf := find_none e
    unfold L5
    rw [e]
    refine exs_cons ?_
    refine ex_try (xc := .key) FX (by omega) rfl rfl rfl ?_
    walk_at "mv"
    refine meth_at FX 394 H.inst ?_
    walk_at "mv"
    refine c_pop FX F.f394 F.f309 F.f386 F.f379 (by omega) hd.kl H hw (fun r hfr => by rw [hf] at hfr; cases hfr) (fun _ => ?_)
    refine ⟨rfl, ?_⟩
    walk_at "mv"
    refine ev_list ?_
    walk_at "mv"
    refine ⟨by simp, ?_⟩
    refine op_ne_ints (b := []) (by omega) ?_
    refine tst_bool ?_
    refine ⟨fun hb => by simp [natsI] at hb, fun _ => ?_⟩
    refine exs_nil ?_
    dsimp only
    refine exs_nil ?_
    dsimp only
    refine exs_nil ?_
    exact turn_end hk hi hr (by omega) (L4_sub rfl rfl rfl rfl)
  | cons p0 tl =>
    obtain ⟨r, hr0, hf⟩ := find_hits e
    have hp0 := (hits_cons e).1
    have hlz : (natsI (p0 :: tl)).length ≤ 100 := by
      have := hitsTo_len d.name rows rows.length
      rw [e] at this
      simp only [natsI, List.length_map]; omega
    have g0 : (intsM (natsI (hitsTo d.name rows rows.length)))[0]? = some (.int p0) := by rw [e]; rfl
    have hlz' : (intsM (natsI (hitsTo d.name rows rows.length))).length ≤ 100000 := by
      have := hitsTo_len d.name rows rows.length
      simp only [intsM, natsI, List.length_map]; omega
    unfold L5
    refine exs_cons ?_
    refine ex_try (xc := .key) FX (by omega) rfl rfl rfl ?_
    walk_at "mv"
    refine meth_at FX 394 H.inst ?_
    walk_at "mv"
    refine c_pop FX F.f394 F.f309 F.f386 F.f379 (by omega) hd.kl H hw (fun r' hfr => ?_) (fun hfn => by rw [hf] at hfn; cases hfn)
    rw [hf] at hfr
    cases hfr
    rw [put_rows]
    walk_at "mv"
    refine ev_list ?_
    walk_at "mv"
    refine ⟨by simp, ?_⟩
    refine op_eq_ints (b := []) (by omega) ?_
    refine tst_bool ?_
    refine ⟨fun _ => ?_, fun hb => by rw [e] at hb; simp [natsI] at hb⟩
    walk_at "mv"
    refine sub_list_int (l := intsM (natsI (hitsTo d.name rows rows.length))) (j := 0) rfl hlz' (.inl ⟨by omega, rfl⟩) g0 ?_
    refine sub_list_int (l := rowsM rows) (j := p0) (m := rowM r) rfl (by rw [rowsM_len]; omega) (.inl ⟨by omega, by omega⟩) (by rw [rowsM_get, hr0]; rfl) ?_
    walk_at "mv"
    refine sub_tup (k := 1) (m := .str r.2) (by simp) rfl ?_
    refine op_ne_str ?_
    rw [show (!r.2 == r.2) = false by simp]
    refine tst_bool ?_
    refine ⟨fun _ => ?_, nofun⟩
    refine ts_or_nil ?_
    refine ⟨nofun, fun _ => ?_⟩
    refine exs_nil ?_
    dsimp only
    refine exs_cons ?_
    refine ex_assign ?_ (fun env h => by cases env; cases h; rfl) (fun env h => by cases env; cases h; rfl) (fun _ => rfl)
    refine ev_drop (rows := rows) (key := d.name) (by omega) (by omega) rfl (capL_cons rfl rfl (capL_cons rfl rfl capL_nil)) (fun _ _ => rfl) rfl rfl (fun K' hK => ?_) (wf_it hi) (fun q τ K' hK => ?_) (fun q r τ hr0 K' hK => ?_) ?_
    · walk_at "mv"
      refine ⟨_, rfl, by walk_at "mv_keep", ?_⟩
      walk_at "mv"
      refine ⟨_, rfl, by walk_at "mv_keep", ?_⟩
      walk_at "mv"
      refine call_len (l := rowsM rows) rfl (by rw [rowsM_len]; omega) ?_
      rw [rowsM_len]
      walk_at "mv"
      exact call_range1 hK
    · walk_at "mv"
      refine op_notin_ints (by omega) ?_
      exact tst_bool hK
    · walk_at "mv"
      exact sub_list_int (l := rowsM rows) (j := q) (m := rowM r) rfl (by rw [rowsM_len]; omega) (.inl ⟨by omega, by omega⟩) (by rw [rowsM_get, hr0]; rfl) hK
    refine as_name rfl ?_
    refine exs_nil ?_
    dsimp only
    refine exs_nil ?_
    exact turn_end hk hi hr.drop (by omega) (L4_sub rfl rfl rfl rfl)
end
end
section
open PySem PySem.W PyProof.Rows
section
variable {W : Wd} {Kf : Frag} {σ : Hp} {n : Nat} {K : Fl → Loc → Hp → Prop} {KE : Xc → Loc → Hp → Prop}

theorem y_in : Str.ofString "Y" ∈ keysR := List.mem_append_right _ (.head _)
theorem DeedOk.rowY {d : Deed} (h : DeedOk d) : InR (Str.ofString "Y", d.value) ∧ InR (Str.ofString "Y", d.other) := ⟨⟨y_in, h.value⟩, ⟨y_in, h.other⟩⟩
theorem InRs.two {a b : Row} (h : InR a) (h' : InR b) : InRs [a, b] := (InRs.one h).app (.one h')
theorem InRs.clean {rows : List Row} (h : InRs rows) : Clean rows := h.goods.clean
theorem rowsM_app (a b : List Row) : rowsM a ++ rowsM b = rowsM (a ++ b) := by simp [rowsM]
theorem wf_it2 {rows ys : List Row} {it : MO} (h : ItOk it) : wf (S0 rows ++ [it] ++ [MO.inst (some 4), MO.list (rowsM ys)]) := (wf_it h).apps fun k hk => by
  simp only [S0, List.length_append, List.length_cons, List.length_nil] at hk
  simp only [List.all_cons, List.all_nil, Bool.and_true, Bool.and_eq_true]
  exact ⟨by simp [MO.ok]; omega, ok_rows _ _⟩
theorem at_rows2 {rows ys : List Row} {it : MO} (h : InRs ys) (hl : ys.length ≤ 60) : HasRows (S0 rows ++ [it] ++ [MO.inst (some 4), MO.list (rowsM ys)]) 3 4 ys := ⟨rfl, rfl, h.goods.short, by omega⟩
theorem put_rows2 (rows rows' ys : List Row) (it : MO) : (S0 rows ++ [it] ++ [MO.inst (some 4), MO.list (rowsM ys)]).set 1 (.list (rowsM rows')) = S0 rows' ++ [it] ++ [MO.inst (some 4), MO.list (rowsM ys)] := rfl
theorem new_two (rows ys : List Row) (it : MO) : S0 rows ++ [it] ++ [MO.inst (some ((S0 rows ++ [it]).length + 1))] ++ [MO.list (rowsM ys)] = S0 rows ++ [it] ++ [MO.inst (some 4), MO.list (rowsM ys)] := rfl
theorem turn_end2 {ss : List Int} {rows rows' ys : List Row} {it : MO} {loc : Loc} (hk : TurnK ss rows it K) (hi : ItOk it) (h : InRs rows') (hl : rows'.length ≤ rows.length + 5) (hs : SubL (L4 ss rows') loc) : K .next loc (S0 rows' ++ [it] ++ [MO.inst (some 4), MO.list (rowsM ys)]) :=
  hk rows' _ loc h hl (wf_it2 hi) hs

/-- the rows that a deed 6 puts behind -/
theorem deed6 (F : Pr W Kf) (hn : n ≤ 2) : TurnD W n 6 (thenOf (chain 6)) := by
  intro ss rows it d x K KE hr hl hd hi hk
  have FX := F.toSx
  have hw := wf_it (rows := rows) hi
  have H := at_rows (it := it) hr hl
  have h3 := fmod_nn (a := d.number.fdiv 25) (b := 3) (by decide)
  obtain ⟨kd, hkd⟩ : ∃ k, k = (d.number.fdiv 25).fmod 3 := ⟨_, rfl⟩
  obtain ⟨pl, hpl⟩ : ∃ b, b = ((d.number.fdiv 75).fmod 2 == 1) := ⟨_, rfl⟩
  rw [← hkd] at h3
  have hy := hd.rowY
  walk_at "mv"
  refine op_fdiv_int (by decide) (by decide) ?_
  walk_at "mv"
  refine op_mod_int (by decide) ?_
  rw [← hkd]
  walk_at "mv"
  refine op_fdiv_int (by decide) (by decide) ?_
  walk_at "mv"
  refine op_mod_int (by decide) ?_
  walk_at "mv"
  refine op_eq_int ?_
  rw [← hpl]
  walk_at "mv"
  refine meth_at FX 365 H.inst ?_
  walk_at "mv"
  refine op_eq_int ?_
  have hc : kd = 0 ∨ kd = 1 ∨ kd = 2 := by omega
  clear hkd hpl h3
  rcases hc with rfl | rfl | rfl
  · have hin := InRs.one hd.row
    refine tst_bool ?_
    refine ⟨fun _ => ?_, fun hb => absurd hb (by decide)⟩
    refine ev_list ?_
    walk_at "mv"
    refine ⟨by simp, ?_⟩
    walk_at "mv"
    refine ⟨by simp, ?_⟩
    walk_at "mv"
    refine c_extend F (by omega) (arg_list F (ys := [(d.name, d.value)]) (l := 1) (by simp)) H hw (by simp; omega) hin.clean ?_
    rw [put_rows]
    refine ⟨rfl, ?_⟩
    walk_at "mv"
    refine op_eq_int ?_
    refine tst_bool ?_
    refine ⟨fun hb => absurd hb (by decide), fun _ => ⟨fun _ => ?_, nofun⟩⟩
    refine ev_list ?_
    walk_at "mv"
    refine ⟨by simp, ?_⟩
    walk_at "mv"
    refine ⟨by simp, ?_⟩
    refine op_add_lists (l := rowsM rows) (l' := rowsM [(d.name, d.value)]) rfl rfl (by rw [rowsM_len]; simp [rowsM]; omega) ?_
    rw [rowsM_app]
    refine as_name rfl ?_
    refine exs_nil ?_
    exact turn_end hk hi (hr.app hin) (by simp) (L4_sub rfl rfl rfl rfl)
  · refine tst_bool ?_
    refine ⟨fun hb => absurd hb (by decide), fun _ => ?_⟩
    walk_at "mv"
    refine op_eq_int ?_
    refine tst_bool ?_
    refine ⟨fun _ => ?_, fun hb => absurd hb (by decide)⟩
    refine ev_dict1 FX ?_
    refine ps_cons ?_
    walk_at "mv"
    refine ⟨d.name, rfl, ?_⟩
    walk_at "mv"
    refine tst_bool ?_
    cases pl with
    | true =>
      have hin := InRs.one hd.row
      refine ⟨fun _ => ?_, nofun⟩
      walk_at "mv"
      refine ⟨.s d.value, rfl, ?_⟩
      refine ps_nil ?_
      refine ⟨by simp, ?_⟩
      walk_at "mv"
      refine c_extend F (by omega) (arg_d1 F (l := 1)) H hw (by simp; omega) hin.clean ?_
      rw [put_rows]
      refine ⟨rfl, ?_⟩
      walk_at "mv"
      refine op_eq_int ?_
      refine tst_bool ?_
      refine ⟨fun _ => ?_, fun hb => absurd hb (by decide)⟩
      walk_at "mv"
      refine op_eq_int ?_
      refine tst_bool ?_
      refine ⟨fun _ => ?_, fun hb => absurd hb (by decide)⟩
      walk_at "mv"
      refine tst_bool ?_
      refine ⟨fun _ => ?_, nofun⟩
      refine ts_and_nil ?_
      refine ⟨nofun, fun _ => ⟨fun _ => ?_, nofun⟩⟩
      refine ev_list ?_
      walk_at "mv"
      refine ⟨by simp, ?_⟩
      walk_at "mv"
      refine ⟨by simp, ?_⟩
      refine op_add_lists (l := rowsM rows) (l' := rowsM [(d.name, d.value)]) rfl rfl (by rw [rowsM_len]; simp [rowsM]; omega) ?_
      rw [rowsM_app]
      refine as_name rfl ?_
      refine exs_nil ?_
      exact turn_end hk hi (hr.app hin) (by simp) (L4_sub rfl rfl rfl rfl)
    | false =>
      have hin := InRs.two hd.row hd.row2
      refine ⟨nofun, fun _ => ?_⟩
      refine ev_list ?_
      walk_at "mv"
      refine ⟨by simp, ?_⟩
      refine ⟨.l [d.value, d.other], rfl, ?_⟩
      refine ps_nil ?_
      refine ⟨by simp, ?_⟩
      walk_at "mv"
      refine c_extend F (by omega) (arg_d2 F (l := 1) (by simp) (by simp)) H hw (by simp; omega) hin.clean ?_
      rw [put_rows, show List.map (fun x => (d.name, x)) [d.value, d.other] = [(d.name, d.value), (d.name, d.other)] from rfl]
      refine ⟨rfl, ?_⟩
      walk_at "mv"
      refine op_eq_int ?_
      refine tst_bool ?_
      refine ⟨fun _ => ?_, fun hb => absurd hb (by decide)⟩
      walk_at "mv"
      refine op_eq_int ?_
      refine tst_bool ?_
      refine ⟨fun _ => ?_, fun hb => absurd hb (by decide)⟩
      walk_at "mv"
      refine tst_bool ?_
      refine ⟨nofun, fun _ => ?_⟩
      refine ⟨fun _ => ?_, nofun⟩
      refine ts_or_nil ?_
      refine ⟨nofun, fun _ => ?_⟩
      refine ev_list ?_
      walk_at "mv"
      refine ⟨by simp, ?_⟩
      walk_at "mv"
      refine op_eq_int ?_
      refine tst_bool ?_
      refine ⟨fun hb => absurd hb (by decide), fun _ => ?_⟩
      refine ⟨nofun, fun _ => ?_⟩
      walk_at "mv"
      refine ⟨by simp, ?_⟩
      walk_at "mv"
      refine ⟨by simp, ?_⟩
      refine op_add_lists (l := rowsM rows) (l' := rowsM [(d.name, d.value), (d.name, d.other)]) rfl rfl (by rw [rowsM_len]; simp [rowsM]; omega) ?_
      rw [rowsM_app]
      refine as_name rfl ?_
      refine exs_nil ?_
      exact turn_end hk hi (hr.app hin) (by simp) (L4_sub rfl rfl rfl rfl)
  · refine tst_bool ?_
    refine ⟨fun hb => absurd hb (by decide), fun _ => ?_⟩
    walk_at "mv"
    refine op_eq_int ?_
    refine tst_bool ?_
    refine ⟨fun hb => absurd hb (by decide), fun _ => ?_⟩
    walk_at "mv"
    refine ⟨_, rfl, by walk_at "mv_keep", ?_⟩
    walk_at "mv"
    refine ev_list ?_
    walk_at "mv"
    refine ⟨by simp, ?_⟩
    walk_at "mv"
    refine tst_bool ?_
    cases pl with
    | true =>
      have hin := InRs.two hd.row hy.2
      refine ⟨fun _ => ?_, nofun⟩
      walk_at "mv"
      refine ⟨by simp, ?_⟩
      walk_at "mv"
      refine ⟨by simp, ?_⟩
      walk_at "mv"
      refine new_list (ys := [(d.name, d.value), (Str.ofString "Y", d.other)]) F (by omega) hw (by simp) hin.clean ?_
      rw [new_two]
      walk_at "mv"
      have w2 := wf_it2 (rows := rows) (ys := [(d.name, d.value), (Str.ofString "Y", d.other)]) hi
      have H1 := (at_rows (it := it) hr hl).app [MO.inst (some 4), MO.list (rowsM [(d.name, d.value), (Str.ofString "Y", d.other)])]
      have H2 := at_rows2 (rows := rows) (it := it) hin (by simp)
      refine c_extend F (by omega) (arg_inst F (l := 1) (h' := 3) (l' := 4) (by simp) H2 w2 (by decide) (by decide)) H1 w2 (by simp; omega) hin.clean ?_
      rw [put_rows2]
      refine ⟨rfl, ?_⟩
      walk_at "mv"
      refine op_eq_int ?_
      refine tst_bool ?_
      refine ⟨fun _ => ?_, fun hb => absurd hb (by decide)⟩
      walk_at "mv"
      refine op_eq_int ?_
      refine tst_bool ?_
      refine ⟨fun hb => absurd hb (by decide), fun _ => ?_⟩
      refine ⟨fun _ => ?_, nofun⟩
      refine ts_or_nil ?_
      refine ⟨nofun, fun _ => ?_⟩
      refine ev_list ?_
      walk_at "mv"
      refine ⟨by simp, ?_⟩
      walk_at "mv"
      refine op_eq_int ?_
      refine tst_bool ?_
      refine ⟨fun _ => ?_, fun hb => absurd hb (by decide)⟩
      walk_at "mv"
      refine tst_bool ?_
      refine ⟨fun _ => ?_, nofun⟩
      refine ts_and_nil ?_
      refine ⟨fun _ => ?_, nofun⟩
      walk_at "mv"
      refine ⟨by simp, ?_⟩
      walk_at "mv"
      refine ⟨by simp, ?_⟩
      refine op_add_lists (l := rowsM rows) (l' := rowsM [(d.name, d.value), (Str.ofString "Y", d.other)]) rfl rfl (by rw [rowsM_len]; simp [rowsM]; omega) ?_
      rw [rowsM_app]
      refine as_name rfl ?_
      refine exs_nil ?_
      exact turn_end2 hk hi (hr.app hin) (by simp) (L4_sub rfl rfl rfl rfl)
    | false =>
      have hin := InRs.two hd.row hd.row2
      refine ⟨nofun, fun _ => ?_⟩
      walk_at "mv"
      refine ⟨by simp, ?_⟩
      walk_at "mv"
      refine ⟨by simp, ?_⟩
      walk_at "mv"
      refine new_list (ys := [(d.name, d.value), (d.name, d.other)]) F (by omega) hw (by simp) hin.clean ?_
      rw [new_two]
      walk_at "mv"
      have w2 := wf_it2 (rows := rows) (ys := [(d.name, d.value), (d.name, d.other)]) hi
      have H1 := (at_rows (it := it) hr hl).app [MO.inst (some 4), MO.list (rowsM [(d.name, d.value), (d.name, d.other)])]
      have H2 := at_rows2 (rows := rows) (it := it) hin (by simp)
      refine c_extend F (by omega) (arg_inst F (l := 1) (h' := 3) (l' := 4) (by simp) H2 w2 (by decide) (by decide)) H1 w2 (by simp; omega) hin.clean ?_
      rw [put_rows2]
      refine ⟨rfl, ?_⟩
      walk_at "mv"
      refine op_eq_int ?_
      refine tst_bool ?_
      refine ⟨fun _ => ?_, fun hb => absurd hb (by decide)⟩
      walk_at "mv"
      refine op_eq_int ?_
      refine tst_bool ?_
      refine ⟨fun hb => absurd hb (by decide), fun _ => ?_⟩
      refine ⟨fun _ => ?_, nofun⟩
      refine ts_or_nil ?_
      refine ⟨nofun, fun _ => ?_⟩
      refine ev_list ?_
      walk_at "mv"
      refine ⟨by simp, ?_⟩
      walk_at "mv"
      refine op_eq_int ?_
      refine tst_bool ?_
      refine ⟨fun _ => ?_, fun hb => absurd hb (by decide)⟩
      walk_at "mv"
      refine tst_bool ?_
      refine ⟨nofun, fun _ => ?_⟩
      refine ⟨nofun, fun _ => ?_⟩
      walk_at "mv"
      refine ⟨by simp, ?_⟩
      walk_at "mv"
      refine ⟨by simp, ?_⟩
      refine op_add_lists (l := rowsM rows) (l' := rowsM [(d.name, d.value), (d.name, d.other)]) rfl rfl (by rw [rowsM_len]; simp [rowsM]; omega) ?_
      rw [rowsM_app]
      refine as_name rfl ?_
      refine exs_nil ?_
      exact turn_end2 hk hi (hr.app hin) (by simp) (L4_sub rfl rfl rfl rfl)
end
end
section
open PySem PySem.W PyProof.Rows
section
variable {W : Wd} {Kf : Frag} {σ : Hp} {n : Nat} {K : Fl → Loc → Hp → Prop} {KE : Xc → Loc → Hp → Prop}

theorem names_y : ∀ k ∈ namesL, (low k == low (Str.ofString "Y")) = false ∧ (low (Str.ofString "Y") == low k) = false := by decide +kernel
theorem y_ne {k : Str} (h : k ∈ namesL) : k ≠ Str.ofString "Y" := fun e => by have := (names_y k h).1; rw [e] at this; simp at this
theorem host_in : Str.ofString "Host" ∈ namesL := .tail _ (.tail _ (.head _))
theorem others_is {k v o : Str} {rows : List Row} (h : k ∈ namesL) : setOthers [(k, v), (Str.ofString "Y", o), (k, o)] rows [(k, v), (Str.ofString "Y", o), (k, o)] =
    setRows k v (setRows (Str.ofString "Y") o (setRows k v rows ++ [(k, o)])) ++ [(k, o)] := by
  obtain ⟨h1, h2⟩ := names_y k h
  have g1 : getAll k [(k, v), (Str.ofString "Y", o), (k, o)] = [v, o] := by simp [getAll, List.filter_cons, h2]
  have g2 : getAll (Str.ofString "Y") [(k, v), (Str.ofString "Y", o), (k, o)] = [o] := by simp [getAll, List.filter_cons, h1]
  simp only [setOthers, List.foldl_cons, List.foldl_nil, g1, g2, setVals, addAll, List.map_cons, List.map_nil, List.append_nil]

theorem deed7 (F : Pr W Kf) (hn : n ≤ 2) : TurnD W n 7 (thenOf (chain 7)) := by
  intro ss rows it d x K KE hr hl hd hi hk
  have FX := F.toSx
  have hw := wf_it (rows := rows) hi
  have H := at_rows (it := it) hr hl
  have h3 := fmod_nn (a := d.number.fdiv 25) (b := 3) (by decide)
  obtain ⟨kd, hkd⟩ : ∃ k, k = (d.number.fdiv 25).fmod 3 := ⟨_, rfl⟩
  rw [← hkd] at h3
  have hy := hd.rowY
  have hhost : InR (Str.ofString "Host", d.other) := ⟨names_sub host_in, hd.other⟩
  have l1 := setRows_len (key := d.name) (x := d.value) rows
  have r1 := hr.set hd.row
  walk_at "mv"
  refine op_fdiv_int (by decide) (by decide) ?_
  walk_at "mv"
  refine op_mod_int (by decide) ?_
  rw [← hkd]
  walk_at "mv"
  refine meth_at FX 482 H.inst ?_
  walk_at "mv"
  refine op_eq_int ?_
  have hc : kd = 0 ∨ kd = 1 ∨ kd = 2 := by omega
  clear hkd h3
  rcases hc with rfl | rfl | rfl
  · have hin := InRs.two hd.row hhost
    have l2 := setRows_len (key := Str.ofString "Host") (x := d.other) (setRows d.name d.value rows)
    refine tst_bool ?_
    refine ⟨fun _ => ?_, fun hb => absurd hb (by decide)⟩
    refine ev_list ?_
    walk_at "mv"
    refine ⟨by simp, ?_⟩
    walk_at "mv"
    refine ⟨by simp, ?_⟩
    walk_at "mv"
    refine ⟨by simp, ?_⟩
    walk_at "mv"
    refine c_update_list (ys := [(d.name, d.value), (Str.ofString "Host", d.other)]) F (by omega) H hw (by simp; omega) hin.clean ?_
    rw [put_rows, show setAll rows [(d.name, d.value), (Str.ofString "Host", d.other)] = setRows (Str.ofString "Host") d.other (setRows d.name d.value rows) from rfl]
    refine ⟨rfl, ?_⟩
    walk_at "mv"
    refine ⟨_, rfl, by walk_at "mv_keep", ?_⟩
    walk_at "mv"
    refine c_law_set F (by omega) hd.kl hr.goods.short (by omega) (wf_it hi) ?_
    walk_at "mv"
    refine op_eq_int ?_
    refine tst_bool ?_
    refine ⟨fun _ => ?_, fun hb => absurd hb (by decide)⟩
    walk_at "mv"
    refine ⟨_, rfl, by walk_at "mv_keep", ?_⟩
    walk_at "mv"
    refine c_law_set F (by omega) (by decide) r1.goods.short (by omega) (wf_it hi) ?_
    walk_at "mv"
    refine op_eq_int ?_
    refine tst_bool ?_
    refine ⟨fun hb => absurd hb (by decide), fun _ => ?_⟩
    refine exs_nil ?_
    refine exs_nil ?_
    exact turn_end hk hi (r1.set hhost) (by omega) (L4_sub rfl rfl rfl rfl)
  · have r2 := r1.app (InRs.one hd.row2)
    have e2 : addAll d.name [d.other] (setRows d.name d.value rows) = setRows d.name d.value rows ++ [(d.name, d.other)] := rfl
    have l3 := setRows_len (key := Str.ofString "Y") (x := d.value) (setRows d.name d.value rows ++ [(d.name, d.other)])
    have l4 : (setRows d.name d.value rows ++ [(d.name, d.other)]).length ≤ rows.length + 2 := by simp; omega
    refine tst_bool ?_
    refine ⟨fun hb => absurd hb (by decide), fun _ => ?_⟩
    walk_at "mv"
    refine op_eq_int ?_
    refine tst_bool ?_
    refine ⟨fun _ => ?_, fun hb => absurd hb (by decide)⟩
    refine ev_dict2 FX ?_
    refine ps_cons ?_
    walk_at "mv"
    refine ⟨d.name, rfl, ?_⟩
    refine ev_list ?_
    walk_at "mv"
    refine ⟨by simp, ?_⟩
    refine ⟨.l [d.value, d.other], rfl, ?_⟩
    refine ps_cons ?_
    walk_at "mv"
    refine ⟨Str.ofString "Y", rfl, ?_⟩
    walk_at "mv"
    refine ⟨.s d.value, rfl, ?_⟩
    refine ps_nil ?_
    refine ⟨by simp [y_ne hd.name], ?_⟩
    walk_at "mv"
    refine c_update_dict F (by omega) H hw (by simp; omega) (fun e he => ?_) ?_
    · simp only [List.mem_cons, List.not_mem_nil, or_false] at he
      rcases he with rfl | rfl
      · exact ⟨hd.kl, d.value, [d.other], rfl, by simp, hd.pv, fun y hy => by rw [List.mem_singleton] at hy; subst hy; exact hd.po⟩
      · exact ⟨show (Str.ofString "Y").length ≤ 100000 by decide, hd.pv⟩
    rw [put_rows, show setEach rows [(d.name, .l [d.value, d.other]), (Str.ofString "Y", .s d.value)] = setRows (Str.ofString "Y") d.value (setRows d.name d.value rows ++ [(d.name, d.other)]) from rfl]
    refine ⟨rfl, ?_⟩
    walk_at "mv"
    refine ⟨_, rfl, by walk_at "mv_keep", ?_⟩
    walk_at "mv"
    refine c_law_set F (by omega) hd.kl hr.goods.short (by omega) (wf_it hi) ?_
    walk_at "mv"
    refine op_eq_int ?_
    refine tst_bool ?_
    refine ⟨fun hb => absurd hb (by decide), fun _ => ?_⟩
    walk_at "mv"
    refine ⟨_, rfl, by walk_at "mv_keep", ?_⟩
    walk_at "mv"
    refine ev_list ?_
    walk_at "mv"
    refine ⟨by simp, ?_⟩
    walk_at "mv"
    refine ⟨by simp, ?_⟩
    refine op_add_lists (l := rowsM (setRows d.name d.value rows)) (l' := rowsM [(d.name, d.other)]) rfl rfl (by rw [rowsM_len]; simp [rowsM]; omega) ?_
    rw [rowsM_app]
    walk_at "mv"
    refine op_eq_int ?_
    refine tst_bool ?_
    refine ⟨fun _ => ?_, fun hb => absurd hb (by decide)⟩
    walk_at "mv"
    refine c_law_set F (by omega) (by decide) r2.goods.short (by omega) (wf_it hi) ?_
    walk_at "mv"
    refine op_eq_int ?_
    refine tst_bool ?_
    refine ⟨fun hb => absurd hb (by decide), fun _ => ?_⟩
    refine exs_nil ?_
    refine exs_nil ?_
    exact turn_end hk hi (r2.set hy.1) (by omega) (L4_sub rfl rfl rfl rfl)
  · have r2 := r1.app (InRs.one hd.row2)
    have r3 := r2.set hy.2
    have r4 := (r3.set hd.row).app (InRs.one hd.row2)
    have l3 := setRows_len (key := Str.ofString "Y") (x := d.other) (setRows d.name d.value rows ++ [(d.name, d.other)])
    have l4 : (setRows d.name d.value rows ++ [(d.name, d.other)]).length ≤ rows.length + 2 := by simp; omega
    have l5 := setRows_len (key := d.name) (x := d.value) (setRows (Str.ofString "Y") d.other (setRows d.name d.value rows ++ [(d.name, d.other)]))
    have hin : InRs [(d.name, d.value), (Str.ofString "Y", d.other), (d.name, d.other)] := (InRs.one hd.row).app (InRs.two hy.2 hd.row2)
    refine tst_bool ?_
    refine ⟨fun hb => absurd hb (by decide), fun _ => ?_⟩
    walk_at "mv"
    refine op_eq_int ?_
    refine tst_bool ?_
    refine ⟨fun hb => absurd hb (by decide), fun _ => ?_⟩
    walk_at "mv"
    refine ⟨_, rfl, by walk_at "mv_keep", ?_⟩
    walk_at "mv"
    refine ev_list ?_
    walk_at "mv"
    refine ⟨by simp, ?_⟩
    walk_at "mv"
    refine ⟨by simp, ?_⟩
    walk_at "mv"
    refine ⟨by simp, ?_⟩
    walk_at "mv"
    refine ⟨by simp, ?_⟩
    walk_at "mv"
    refine new_list (ys := [(d.name, d.value), (Str.ofString "Y", d.other), (d.name, d.other)]) F (by omega) hw (by simp) hin.clean ?_
    rw [new_two]
    walk_at "mv"
    have w2 := fun ro => wf_it2 (rows := ro) (ys := [(d.name, d.value), (Str.ofString "Y", d.other), (d.name, d.other)]) hi
    have H1 := (at_rows (it := it) hr hl).app [MO.inst (some 4), MO.list (rowsM [(d.name, d.value), (Str.ofString "Y", d.other), (d.name, d.other)])]
    have H2 := at_rows2 (rows := rows) (it := it) hin (by simp)
    refine c_update_inst F (by omega) H1 H2 (by decide) (w2 rows) (by omega) (by simp) hin.clean ?_
    rw [put_rows2, others_is hd.name]
    refine ⟨rfl, ?_⟩
    walk_at "mv"
    refine ⟨_, rfl, by walk_at "mv_keep", ?_⟩
    walk_at "mv"
    refine c_law_set F (by omega) hd.kl hr.goods.short (by omega) (w2 _) ?_
    walk_at "mv"
    refine op_eq_int ?_
    refine tst_bool ?_
    refine ⟨fun hb => absurd hb (by decide), fun _ => ?_⟩
    walk_at "mv"
    refine ⟨_, rfl, by walk_at "mv_keep", ?_⟩
    walk_at "mv"
    refine ev_list ?_
    walk_at "mv"
    refine ⟨by simp, ?_⟩
    walk_at "mv"
    refine ⟨by simp, ?_⟩
    refine op_add_lists (l := rowsM (setRows d.name d.value rows)) (l' := rowsM [(d.name, d.other)]) rfl rfl (by rw [rowsM_len]; simp [rowsM]; omega) ?_
    rw [rowsM_app]
    walk_at "mv"
    refine op_eq_int ?_
    refine tst_bool ?_
    refine ⟨fun hb => absurd hb (by decide), fun _ => ?_⟩
    walk_at "mv"
    refine c_law_set F (by omega) (by decide) r2.goods.short (by omega) (w2 _) ?_
    walk_at "mv"
    refine op_eq_int ?_
    refine tst_bool ?_
    refine ⟨fun _ => ?_, fun hb => absurd hb (by decide)⟩
    walk_at "mv"
    refine ⟨_, rfl, by walk_at "mv_keep", ?_⟩
    walk_at "mv"
    refine c_law_set F (by omega) hd.kl r3.goods.short (by omega) (w2 _) ?_
    walk_at "mv"
    refine ev_list ?_
    walk_at "mv"
    refine ⟨by simp, ?_⟩
    walk_at "mv"
    refine ⟨by simp, ?_⟩
    refine op_add_lists (l := rowsM (setRows d.name d.value (setRows (Str.ofString "Y") d.other (setRows d.name d.value rows ++ [(d.name, d.other)])))) (l' := rowsM [(d.name, d.other)]) rfl rfl (by rw [rowsM_len]; simp [rowsM]; omega) ?_
    rw [rowsM_app]
    refine as_name rfl ?_
    refine exs_nil ?_
    refine exs_nil ?_
    exact turn_end2 hk hi r4 (by simp; omega) (L4_sub rfl rfl rfl rfl)
end
end
section
open PySem PySem.W PyProof.Rows
section
variable {W : Wd} {Kf : Frag} {σ : Hp} {n : Nat} {K : Fl → Loc → Hp → Prop} {KE : Xc → Loc → Hp → Prop}

def elseAll : Stmt → List Stmt
  | .If _ _ b _ => b
  | _ => []

theorem setAt_step {rows : List Row} {j q : Nat} {r nr : Row} (hr : rows[q]? = some r) : (rows.set j nr).take (q + 1) = (rows.set j nr).take q ++ [if q = j then nr else r] := by
  have hq := (List.getElem?_eq_some_iff.mp hr).1
  rw [List.take_add_one, List.getElem?_set]
  by_cases e : j = q
  · subst e; simp [hq]
  · rw [if_neg e, hr, if_neg (Ne.symm e)]; rfl
theorem InRs.setAt {rows : List Row} {j : Nat} {nr : Row} (h : InRs rows) (h' : InR nr) : InRs (rows.set j nr) := fun r hr => by
  rcases List.mem_or_eq_of_mem_set hr with q | rfl
  · exact h r q
  · exact h'

theorem deed8 (F : Pr W Kf) (hn : n ≤ 2) {ss : List Int} {rows : List Row} {it : MO} {d : Deed} {x : Int} {K : Fl → Loc → Hp → Prop} {KE : Xc → Loc → Hp → Prop} (hne : 0 < rows.length) (hr : InRs rows) (hl : rows.length ≤ 40) (hd : DeedOk d) (hi : ItOk it) (hk : TurnK ss rows it K) :
    ExsP W n lawSc (thenOf (chain 8)) (L5 ss rows d x) (S0 rows ++ [it]) K KE := by
  have FX := F.toSx
  have hw := wf_it (rows := rows) hi
  have H := at_rows (it := it) hr hl
  have hz : (rows.length : Int) ≠ 0 := by omega
  have hm := fmod_nn (a := d.number) (b := (rows.length : Int)) (by omega)
  obtain ⟨j, hj⟩ : ∃ j : Nat, d.number.fmod (rows.length : Int) = (j : Int) := ⟨(d.number.fmod (rows.length : Int)).toNat, by omega⟩
  have hjl : j < rows.length := by omega
  walk_at "mv"
  refine ⟨by simp, ?_⟩
  refine as_sub ?_
  walk_at "mv"
  refine ⟨_, rfl, by walk_at "mv_keep", ?_⟩
  walk_at "mv"
  refine call_len (l := rowsM rows) rfl (by rw [rowsM_len]; omega) ?_
  rw [rowsM_len]
  walk_at "mv"
  refine op_mod_int hz ?_
  rw [hj]
  refine setItem_inst F.toSy H.inst ?_
  refine c_setitem_int F (by omega) hd.kl H hw (by omega) (by omega) hd.pv.1 (fun _ => ?_) (fun e => by cases e)
  rw [put_rows, Int.toNat_natCast]
  refine exs_cons ?_
  refine ex_assign ?_ (fun env h => by cases env; cases h; rfl) (fun env h => by cases env; cases h; rfl) (fun _ => rfl)
  refine ev_comp_range (N := rows.length) [("name", .str d.name), ("value", .str d.value), ("number", .int d.number), ("rows", .lst (rowsM rows))] rfl (capL_cons rfl rfl (capL_cons rfl rfl (capL_cons rfl rfl (capL_cons rfl rfl capL_nil)))) (fun _ _ => rfl) (by omega) (fun K' hK => ?_) (fun k _ => by simp [locOk, MV.ok, ok_rows]) (wf_it hi) (by omega)
    (fun q => rowsM ((rows.set j (d.name, d.value)).take q)) rfl (fun q hq => ⟨by rw [rowsM_len, List.length_take]; omega, fun k => ok_rows k _⟩) (fun q hq τ hwτ hx => ?_) ?_
  · walk_at "mv"
    refine ⟨_, rfl, by walk_at "mv_keep", ?_⟩
    walk_at "mv"
    refine ⟨_, rfl, by walk_at "mv_keep", ?_⟩
    walk_at "mv"
    refine call_len (l := rowsM rows) rfl (by rw [rowsM_len]; omega) ?_
    rw [rowsM_len]
    walk_at "mv"
    exact call_range1 hK
  · obtain ⟨r, hrow⟩ : ∃ r, rows[q]? = some r := ⟨rows[q], List.getElem?_eq_getElem hq⟩
    refine aq_name rfl ?_
    refine ⟨rfl, sub_cons rfl (SubL.refl _), ?_⟩
    refine tests_nil ?_
    refine ⟨rfl, fun _ => ?_, nofun⟩
    walk_at "mv"
    refine ⟨_, rfl, by walk_at "mv_keep", ?_⟩
    walk_at "mv"
    refine call_len (l := rowsM rows) rfl (by rw [rowsM_len]; omega) ?_
    rw [rowsM_len]
    walk_at "mv"
    refine op_mod_int hz ?_
    rw [hj]
    refine op_eq_int ?_
    have eb : ((q : Int) == (j : Int)) = decide (q = j) := by
      by_cases e : q = j
      · simp [e]
      · simp [e]; omega
    rw [eb]
    refine tst_bool ?_
    refine ⟨fun hb => ?_, fun hb => ?_⟩
    · have e := of_decide_eq_true hb
      walk_at "mv"
      refine ⟨by simp, rfl, ?_⟩
      rw [setAt_step hrow, if_pos e]
      simp [plus, rowsM, rowM]
    · have e := of_decide_eq_false hb
      walk_at "mv"
      refine sub_list_int (l := rowsM rows) (j := q) (m := rowM r) rfl (by rw [rowsM_len]; omega) (.inl ⟨by omega, by omega⟩) (by rw [rowsM_get, hrow]; rfl) ?_
      refine ⟨rfl, ?_⟩
      rw [setAt_step hrow, if_neg e]
      simp [plus, rowsM]
  rw [show (rows.set j (d.name, d.value)).take rows.length = rows.set j (d.name, d.value) from List.take_of_length_le (by rw [List.length_set]; omega)]
  refine as_name rfl ?_
  refine exs_nil ?_
  exact turn_end hk hi (hr.setAt hd.row) (by rw [List.length_set]; omega) (L4_sub rfl rfl rfl rfl)

def brokenL (v o : Str) : List Str := [v ++ Str.ofString "\r", Str.ofString "\n" ++ v, v ++ Str.ofString "\n" ++ o, v ++ Str.ofString "\r" ++ o, Str.ofString "\r" ++ v, v ++ Str.ofString "\n"]
theorem broken_all : ∀ v ∈ valsR, ∀ o ∈ valsR, ∀ b ∈ brokenL v o, reSays b = some true := by decide +kernel
theorem vals_len : ∀ v ∈ valsR, v.length ≤ 100 := by decide +kernel
theorem add_len (a b : Str) : (a ++ b).length = a.length + b.length := by simp [Str.length, Str.cps_append]

theorem deed9 (F : Pr W Kf) (hn : n ≤ 2) : TurnD W n 9 (elseAll (chain 8)) := by
  intro ss rows it d x K KE hr hl hd hi hk
  have FX := F.toSx
  have hw := wf_it (rows := rows) hi
  have H := at_rows (it := it) hr hl
  have hlv := vals_len _ hd.value
  have hlo := vals_len _ hd.other
  have w2 := fun ys => wf_it2 (rows := rows) (ys := ys) hi
  have H0 : HasRows (S0 rows ++ [it] ++ [MO.inst (some 4), MO.list (rowsM rows)]) 3 4 rows := at_rows2 (rows := rows) (it := it) hr (by omega)
  have hr1 : InRs (rows ++ [(d.name, d.value)]) := hr.app (.one hd.row)
  have hl1 : (rows ++ [(d.name, d.value)]).length = rows.length + 1 := by simp
  have H1 : HasRows (S0 rows ++ [it] ++ [MO.inst (some 4), MO.list (rowsM (rows ++ [(d.name, d.value)]))]) 3 4 (rows ++ [(d.name, d.value)]) := at_rows2 (rows := rows) (it := it) hr1 (by omega)
  have HH : HasRows (S0 rows ++ [it] ++ [MO.inst (some 4), MO.list (rowsM (rows ++ [(d.name, d.value)]))]) 0 1 rows := H.app _
  have h6 := fmod_nn (a := d.number.fdiv 5) (b := 6) (by decide)
  walk_at "mv"
  refine meth_at FX 510 H.inst ?_
  walk_at "mv"
  refine c_copy F (by omega) H hw (by omega) hr.goods.clean ?_
  rw [new_two]
  walk_at "mv"
  refine meth_at FX 429 H0.inst ?_
  walk_at "mv"
  refine c_add FX F.re F.f543 F.f429 (by omega) H0 (w2 _) (by omega) (.str d.value) hd.pv.1 (fun _ => ?_) (fun e => by cases e)
  rw [show (S0 rows ++ [it] ++ [MO.inst (some 4), MO.list (rowsM rows)]).set 4 (.list (rowsM (rows ++ [(d.name, d.value)]))) = S0 rows ++ [it] ++ [MO.inst (some 4), MO.list (rowsM (rows ++ [(d.name, d.value)]))] from rfl]
  refine ⟨rfl, ?_⟩
  walk_at "mv"
  refine ev_list ?_
  walk_at "mv"
  refine op_add_str (by rw [show (Str.ofString "\r").length = 1 from rfl]; omega) ?_
  walk_at "mv"
  refine op_add_str (by rw [show (Str.ofString "\n").length = 1 from rfl]; omega) ?_
  walk_at "mv"
  refine op_add_str (by rw [show (Str.ofString "\n").length = 1 from rfl]; omega) ?_
  walk_at "mv"
  refine op_add_str (by rw [add_len, show (Str.ofString "\n").length = 1 from rfl]; omega) ?_
  walk_at "mv"
  refine op_add_str (by rw [show (Str.ofString "\r").length = 1 from rfl]; omega) ?_
  walk_at "mv"
  refine op_add_str (by rw [add_len, show (Str.ofString "\r").length = 1 from rfl]; omega) ?_
  walk_at "mv"
  refine op_add_str (by rw [show (Str.ofString "\r").length = 1 from rfl]; omega) ?_
  walk_at "mv"
  refine op_add_str (by rw [show (Str.ofString "\n").length = 1 from rfl]; omega) ?_
  walk_at "mv"
  refine ⟨by simp, ?_⟩
  walk_at "mv"
  refine op_fdiv_int (by decide) (by decide) ?_
  walk_at "mv"
  refine op_mod_int (by decide) ?_
  obtain ⟨b, hb⟩ : ∃ b, (brokenL d.value d.other)[((d.number.fdiv 5).fmod 6).toNat]? = some b := ⟨_, List.getElem?_eq_getElem (by show _ < 6; omega)⟩
  have hbad := broken_all _ hd.value _ hd.other b (List.mem_of_getElem? hb)
  refine sub_list_int (l := strsM (brokenL d.value d.other)) (j := ((d.number.fdiv 5).fmod 6).toNat) (m := .str b) rfl (by simp [strsM, brokenL]) (.inl ⟨h6.1, rfl⟩) (by rw [strsM, List.getElem?_map, hb]; rfl) ?_
  walk_at "mv"
  refine ⟨_, rfl, by walk_at "mv_keep", ?_⟩
  walk_at "mv"
  refine op_mod_int (by decide) ?_
  walk_at "mv"
  refine c_law_refused F (by omega) hd.kl HH (w2 _) (by omega) hr.goods.oks hbad ?_
  refine tst_bool ?_
  refine ⟨fun _ => ?_, nofun⟩
  walk_at "mv"
  refine ⟨_, rfl, by walk_at "mv_keep", ?_⟩
  walk_at "mv"
  refine ev_list ?_
  walk_at "mv"
  refine ⟨by simp, ?_⟩
  walk_at "mv"
  refine ⟨by simp, ?_⟩
  refine op_add_lists (l := rowsM rows) (l' := rowsM [(d.name, d.value)]) rfl rfl (by rw [rowsM_len]; simp [rowsM]; omega) ?_
  rw [rowsM_app]
  walk_at "mv"
  refine c_law_like F (by omega) H1 (w2 _) (by omega) hr1.goods ?_
  refine tst_bool ?_
  refine ⟨fun _ => ?_, nofun⟩
  refine ts_or_nil ?_
  refine ⟨nofun, fun _ => ?_⟩
  refine exs_nil ?_
  refine exs_nil ?_
  exact turn_end2 hk hi hr (by omega) (L4_sub rfl rfl rfl rfl)
end
end
section
open PySem PySem.W PyProof.Rows
section
variable {W : Wd} {Kf : Frag} {σ : Hp} {n : Nat} {K : Fl → Loc → Hp → Prop} {KE : Xc → Loc → Hp → Prop}

theorem chain_all (F : Pr W Kf) (hn : n ≤ 2) : TurnS W n (chain 0) := by
  intro ss rows it d x K KE hr hl hd hi hk
  walk_at "mv"
  refine op_eq_int ?_
  refine tst_bool ?_
  refine ⟨fun _ => deed0 F hn ss rows it d x _ _ hr hl hd hi ?_, fun _ => ?_⟩
  · exact hk
  walk_at "mv"
  refine op_eq_int ?_
  refine tst_bool ?_
  refine ⟨fun _ => deed1 F hn ss rows it d x _ _ hr hl hd hi ?_, fun _ => ?_⟩
  · intro rows' ext loc' a b c d
    try dsimp only
    repeat (refine exs_nil ?_; try dsimp only)
    exact hk rows' ext loc' a b c d
  walk_at "mv"
  refine op_eq_int ?_
  refine tst_bool ?_
  refine ⟨fun _ => deed2 F hn ss rows it d x _ _ hr hl hd hi ?_, fun _ => ?_⟩
  · intro rows' ext loc' a b c d
    try dsimp only
    repeat (refine exs_nil ?_; try dsimp only)
    exact hk rows' ext loc' a b c d
  walk_at "mv"
  refine op_eq_int ?_
  refine tst_bool ?_
  refine ⟨fun _ => deed3 F hn ss rows it d x _ _ hr hl hd hi ?_, fun _ => ?_⟩
  · intro rows' ext loc' a b c d
    try dsimp only
    repeat (refine exs_nil ?_; try dsimp only)
    exact hk rows' ext loc' a b c d
  walk_at "mv"
  refine op_eq_int ?_
  refine tst_bool ?_
  refine ⟨fun _ => deed4 F hn ss rows it d x _ _ hr hl hd hi ?_, fun _ => ?_⟩
  · intro rows' ext loc' a b c d
    try dsimp only
    repeat (refine exs_nil ?_; try dsimp only)
    exact hk rows' ext loc' a b c d
  walk_at "mv"
  refine op_eq_int ?_
  refine tst_bool ?_
  refine ⟨fun _ => deed5 F hn ss rows it d x _ _ hr hl hd hi ?_, fun _ => ?_⟩
  · intro rows' ext loc' a b c d
    try dsimp only
    repeat (refine exs_nil ?_; try dsimp only)
    exact hk rows' ext loc' a b c d
  walk_at "mv"
  refine op_eq_int ?_
  refine tst_bool ?_
  refine ⟨fun _ => deed6 F hn ss rows it d x _ _ hr hl hd hi ?_, fun _ => ?_⟩
  · intro rows' ext loc' a b c d
    try dsimp only
    repeat (refine exs_nil ?_; try dsimp only)
    exact hk rows' ext loc' a b c d
  walk_at "mv"
  refine op_eq_int ?_
  refine tst_bool ?_
  refine ⟨fun _ => deed7 F hn ss rows it d x _ _ hr hl hd hi ?_, fun _ => ?_⟩
  · intro rows' ext loc' a b c d
    try dsimp only
    repeat (refine exs_nil ?_; try dsimp only)
    exact hk rows' ext loc' a b c d
  walk_at "mv"
  refine op_eq_int ?_
  refine tst_bool ?_
  refine ⟨fun _ => ?_, fun _ => ?_⟩
  · walk_at "mv"
    refine ev_list ?_
    walk_at "mv"
    refine ⟨by simp, ?_⟩
    refine op_ne_rows (b := []) (by omega) hr.goods.oks (fun x hx => by cases hx) ?_
    refine tst_bool ?_
    refine ⟨fun hb => ?_, fun hb => ?_⟩
    · have hne : 0 < rows.length := List.length_pos_iff.mpr (by simpa using hb)
      refine ts_and_nil ?_
      refine ⟨fun _ => deed8 F hn hne hr hl hd hi ?_, nofun⟩
      intro rows' ext loc' a b c d
      try dsimp only
      repeat (refine exs_nil ?_; try dsimp only)
      exact hk rows' ext loc' a b c d
    · refine ⟨nofun, fun _ => deed9 F hn ss rows it d x _ _ hr hl hd hi ?_⟩
      intro rows' ext loc' a b c d
      try dsimp only
      repeat (refine exs_nil ?_; try dsimp only)
      exact hk rows' ext loc' a b c d
  · refine ⟨nofun, fun _ => deed9 F hn ss rows it d x _ _ hr hl hd hi ?_⟩
    intro rows' ext loc' a b c d
    try dsimp only
    repeat (refine exs_nil ?_; try dsimp only)
    exact hk rows' ext loc' a b c d

/-- the law's body -/
theorem law_all (F : Pr W Kf) (hn : n ≤ 2) {ss : List Int} (hz : ss.length ≤ 63) {K : Fl → Loc → Hp → Prop} {KE : Xc → Loc → Hp → Prop} (hK : ∀ loc τ, K (.ret (.bool true)) loc τ) : ExsP W n lawSc lawBody [("script", .lst (intsM ss))] [] K KE :=
  law_a F hn hz (law_b F hn fun L hp hr => law_c F hn hp hr (law_d F hn hz (law_e F hn (chain_all F hn) hK)))
end
end
section
open PySem PySem.W PyProof.Rows
theorem ns_in {K : Frag} {h : Heap} (X : K.In h) {a : Addr} {o : Obj} {es : Array DictEntry} {ep : Nat} (e : K.lookup a = some o) (hd : o.data = .dict es ep) (hk : (es.toList.all fun e => match e.key with | .str _ _ => true | _ => false) = true) : h.Ns a (nsFind es) :=
  ⟨o, es, ep, X _ _ e, hd, (fun e he => by
    have hx := List.all_eq_true.mp hk e (Array.mem_toList_iff.mpr he)
    cases hk : e.key <;> rw [hk] at hx <;> first | exact ⟨_, _, rfl⟩ | cases hx), fun _ => rfl⟩

theorem boot_all : ∀ p ∈ bTab, p.1 ≠ ("__name__" : Str) ∧ bootBuiltins p.1 = some p.2 := by decide +kernel

/-- what the globals' dict must hold -/
def globOk (es : Array DictEntry) : Bool := (gTab.all fun p => nsFind es p.1 == some p.2) && bTab.all fun p => nsFind es p.1 == none

theorem glob_of {K : Frag} {h : Heap} {mg mb : Str → Option Value} (X : K.In h) (hg : h.Ns mainGlobals mg) (hb : h.Ns builtinsNs mb) (hB : ∀ x : Str, x ≠ "__name__" → mb x = bootBuiltins x) {o : Obj} {es : Array DictEntry} {ep : Nat} (e : K.lookup mainGlobals = some o) (hd : o.data = .dict es ep)
    (hk : (es.toList.all fun e => match e.key with | .str _ _ => true | _ => false) = true) (h1 : globOk es = true) :
    ∃ mg mb, h.Ns mainGlobals mg ∧ h.Ns builtinsNs mb ∧ (∀ x v, gTab.lookup x = some v → mg x = some v) ∧ ∀ x v, bTab.lookup x = some v → mg x = none ∧ mb x = some v := by
  unfold globOk at h1
  rw [Bool.and_eq_true, List.all_eq_true, List.all_eq_true] at h1
  have e1 : ∀ x, mg x = nsFind es x := fun x => Heap.Ns.agree hg (ns_in X e hd hk) x
  refine ⟨mg, mb, hg, hb, fun x v hx => ?_, fun x v hx => ?_⟩
  · rw [e1]; exact beq_iff_eq.mp (h1.1 _ (mem_of_lookup hx))
  · have hm := mem_of_lookup hx
    obtain ⟨n1, n2⟩ := boot_all _ hm
    exact ⟨by rw [e1]; exact beq_iff_eq.mp (h1.2 _ hm), (hB x n1).trans n2⟩

def methOk (K : Frag) : Bool := hdrMeths.all fun p => plainGet K hdrCls p.1 && (findIn K (.ref hdrCls) p.1 == some (some (.ref p.2))) && isFn K (.ref p.2) && keepIn K (.ref p.2)
def keepOk (K : Frag) : Bool := ([.ref 527, .ref 81, .ref 543, .ref 550, .ref 555, .ref 560, .ref 567, .ref 71] : List Value).all (keepIn K)
theorem meth_of {K : Frag} (h : methOk K = true) (x : Str) (f : Addr) (hx : (x, f) ∈ hdrMeths) : plainGet K hdrCls x = true ∧ findIn K (.ref hdrCls) x = some (some (.ref f)) ∧ isFn K (.ref f) = true ∧ keepIn K (.ref f) = true := by
  unfold methOk at h
  rw [List.all_eq_true] at h
  have := h _ hx
  simp only [Bool.and_eq_true, beq_iff_eq] at this
  exact ⟨this.1.1.1, this.1.1.2, this.1.2, this.2⟩
def isiOk (K : Frag) : Bool := isiTs.all fun t => isiCs.all fun c => kitOne K t c == some (t == c)
theorem isi_of {K : Frag} (h : isiOk K = true) : ∀ t ∈ isiTs, ∀ c ∈ isiCs, kitOne K t c = some (t == c) := fun t ht c hc => by
  unfold isiOk at h
  rw [List.all_eq_true] at h
  have := h t ht
  rw [List.all_eq_true] at this
  exact beq_iff_eq.mp (this c hc)

theorem fnIs_of {W : Wd} {K : Frag} (X : K.In W.base) {a : Addr} {o : Obj} {fd : FuncData} (e : K.lookup a = some o) (hd : o.data = .func fd) (hc : codeIn K fd.code fd.qualname = true) (h1 : fd.globals = mainGlobals) (h2 : fd.closure = []) (h3 : fd.builtins = builtinsNs) : FnIs W a fd :=
  ⟨⟨o, X _ _ e, hd⟩, codeRec_of X hc, h1, h2, h3⟩
theorem fnD_of {W : Wd} {K : Frag} (X : K.In W.base) {a : Addr} {o : Obj} {d : Stmt} (r : FnRest) (e : K.lookup a = some o) (hd : o.data = .func (fdOf d r .none)) (hc : codeIn K r.cd r.qual = true) : FnD W a d :=
  ⟨r, fnIs_of X e hd hc rfl rfl rfl⟩
theorem fnDs_of {W : Wd} {K : Frag} (X : K.In W.base) {a : Addr} {o : Obj} {d : Stmt} {dvs : List Value} (r : FnRest) (T : Addr) (n : Nat) (e : K.lookup a = some o) (hd : o.data = .func (fdOf d r (.ref T))) (hc : codeIn K r.cd r.qual = true) (hT : K.lookup T = some (tupObj dvs n)) : FnDs W a d dvs :=
  ⟨r, T, n, fnIs_of X e hd hc rfl rfl rfl, X _ _ hT⟩
end
section
open PySem PySem.W PyProof.Rows
section
variable {W : Wd}

/-- the frame of the call that the claim makes -/
theorem fn_top {fd : FuncData} {a : Addr} {body : List Stmt} {l : Loc} {vs : List Value} {binds : List (Str × Value)} {KR : MV → Prop} {s : Shared} {Q : Value → Shared → Prop} {E : Value → Shared → Prop}
    (F : FnIs W a fd) (hlim : W.base.NoLimit) (hbody : fd.body = .stmts body) (hgen : fd.scope.isCoroutine = false ∧ fd.scope.isGenerator = false ∧ fd.scope.kind = .function)
    (hbase : W.base.StaysIn s.heap) (hos : s.os = W.os) (hgens : AllBare s.gens)
    (hb : bindArgs fd ⟨vs, []⟩ = pure binds) (hbr : BRel W.base [] binds l) (hh : headOk fd l = true)
    (hE : ExsP W 1 fd.scope body l [] (fun fl _ _ => KR (retOf fl)) (fun _ _ _ => False))
    (hQ : ∀ g ρ m v s', KR m → VRel g ρ m v → W.base.StaysIn s'.heap → s'.os = W.os → AllBare s'.gens → Q v s') :
    wpAny (Mo W) callerA (call (.ref a) vs) Q E s := by with_unfolding_all
  obtain ⟨o, ho, hd⟩ := F.at_
  obtain ⟨hco, hge, hk⟩ := hgen
  refine wpAny_call ?_
  refine codeAny_call_function (by show (301 : Nat) < 1000; omega) (hbase _ _ ho) hd hco hge hbody (F.code.keeps hbase) ?_
  rw [hb]
  refine wpAny_pure ?_
  unfold headOk at hh
  simp only [Bool.and_eq_true, Bool.not_eq_true', decide_eq_true_eq, beq_iff_eq, List.all_eq_true, Bool.or_eq_true] at hh
  obtain ⟨⟨⟨⟨⟨_, _⟩, _⟩, hnd⟩, hkd⟩, hcn⟩ := hh
  have hkind : ∀ x ∈ binds, fd.scope.names.lookup x.1 = some .local ∨ fd.scope.names.lookup x.1 = some .cell := fun x hx => by
    obtain ⟨y, hy, e⟩ := hbr.mem hx
    exact e ▸ hkd y hy
  rw [F.clos]
  refine wpAny_newFunctionEnv_cells hk (fun x hx => (hkind x hx).imp id fun h => ⟨h, Option.isSome_iff_exists.mpr (cellsFrom_some' _ _ _ _ h)⟩) fun env he s₂ x => ?_
  subst he
  have lim : s₂.heap.NoLimit := Heap.NoLimit.keeps (Heap.NoLimit.keeps hlim hbase) x.toInCall.keep
  refine ⟨lim, codeAny_func ?_⟩
  have fresh : ∀ b, s.heap.objs.size ≤ b → W.base.get? b = none := fun b hb => by
    cases e : W.base.get? b with
    | none => rfl
    | some o => exact absurd (Heap.lt_size (hbase _ _ e)) (Nat.not_lt.mpr hb)
  have k := x.toInCall.keep
  obtain ⟨h', tk, rfl⟩ := x.toInCall.same
  let env := newEnv fd.scope s.heap.objs.size fd.globals (cellsFrom (s.heap.objs.size + 1) fd.scope.names []) (fd.qualname ++ ".<locals>.") (some a) fd.code none fd.builtins
  let c : Cx := { A := callerA.deeper env, env, stack := [env], kept := [] }
  have C : COkS W 1 fd.scope c := by
    have hc : COk W 1 fd.scope c := by
      refine { scE := rfl, kind := hk, glob := F.glob, blt := F.blt, hd := fun _ => rfl, dep := ?_, un := ?_, fr := rfl, top := ⟨_, _, rfl, rfl⟩, cellL := fun y hy => Nat.ne_of_gt (x.above y.1 y.2 hy), stk := ?_, keptL := fun q hq => absurd hq List.not_mem_nil, cellx := fun y hy => cellsFrom_some' _ _ _ _ hy }
      · show 1 + claimMargin + 1 ≤ 5 * (1 % 1000) + 310; decide
      · show 4 + 3 ≤ 20 * (1 % 1000); decide
      · intro e he
        rcases List.mem_cons.mp he with rfl | he
        · exact ⟨by show fd.scope.kind ≠ _; rw [hk]; decide, _, rfl, .inl rfl⟩
        · exact absurd he List.not_mem_nil
    exact ⟨hc, ⟨_, rfl⟩, rfl, x.apart, fun y b hy hb q hq => absurd hq List.not_mem_nil⟩
  have G : Good W c W.base [] l [] { s with heap := h', toks := tk } := by
    refine ⟨StaysIn.refl _, fun b o e => k b o (hbase b o e), (fun p hp => by cases hp), .nil, rfl, (fun i p o e => by simp at e), hos, hgens, (fun i j p q e => by simp at e), fun y mv hy => ?_, ⟨⟨_, x.toInCall.ns⟩, fresh _ (Nat.le_refl _), (fun p hp => by cases hp)⟩, fun y hy => ?_, (fun q hq => by cases hq)⟩
    · obtain ⟨v, hm, r⟩ := hbr.look (by rw [hbr.keys]; exact hnd) hy
      have hnb : (binds.map (·.1)).Nodup := by rw [hbr.keys]; exact hnd
      refine ⟨v, ?_, r⟩
      unfold VHolds
      show match fd.scope.names.lookup y with | some .local => _ | some .cell => _ | some .free => _ | _ => _
      rcases hkind _ hm with q | q
      · dsimp only at q
        rw [q]
        exact ⟨_, x.toInCall.ns, bindL_of hnb hm q⟩
      · dsimp only at q
        rw [q]
        obtain ⟨b, hb'⟩ := cellsFrom_some' fd.scope.names (s.heap.objs.size + 1) [] y q
        refine ⟨b, hb', ?_⟩
        have := x.cell y b hb'
        rw [bindC_of hnb hm (by show List.lookup y fd.scope.names ≠ _; rw [q]; decide)] at this
        exact this
    · refine ⟨?_, fresh _ (Nat.le_of_lt (x.above y.1 y.2 hy)), (fun p hp => by cases hp)⟩
      exact ⟨_, x.cell y.1 y.2 (lookup_of_mem_nodup (cellsFrom_names fd.scope.names 0 (s.heap.objs.size + 1) [] [] rfl ▸ hcn) hy)⟩
  refine wpAny_mono (hE c W.base [] _ C G) (fun f s₃ q => ?_) fun e s₃ q => ?_
  · obtain ⟨fl, l₃, σ₃, g₃, ρ₃, hK, st₃, G₃, fr⟩ := q
    have fin : ∀ v, VRel g₃ ρ₃ (retOf fl) v → Q v s₃ := fun v r => hQ g₃ ρ₃ _ v s₃ hK r (StaysIn.trans G₃.base G₃.gh) G₃.os G₃.gens
    cases fr with
    | ret r => exact fin _ r
    | next => exact fin _ .none
    | brk => exact fin _ .none
    | cont => exact fin _ .none
  · obtain ⟨xc, l₃, σ₃, g₃, ρ₃, h₀, hK, _⟩ := q
    exact hK.elim

theorem intsM_rel {g : Heap} : ∀ {vs : List Value} {xs : List Int}, IntsAre vs xs → VRels g [] (intsM xs) vs
  | _, _, .nil => .nil
  | _, _, .cons n t h => .cons (.int n t) (intsM_rel h)
end
end
section
open PySem PySem.W PyProof.Rows
theorem law_run {W : Wd} {Kf : Frag} (F : Pr W Kf) (D : FnD W 572 (topStmt 20)) {s : Shared} {a : Addr} {vs : List Value} {ss : List Int} {Q : Value → Shared → Prop} {E : Value → Shared → Prop}
    (hbase : W.base.StaysIn s.heap) (hos : s.os = W.os) (hgens : AllBare s.gens) (hl : W.base.get? a = some { cls := .type "list", data := .seq vs.toArray }) (hi : IntsAre vs ss) (hz : ss.length ≤ 63)
    (hQ : ∀ s', W.base.StaysIn s'.heap → s'.os = W.os → AllBare s'.gens → Q (.bool true) s') : wpAny (Mo W) callerA (call (.ref 572) [.ref a]) Q E s := by
  obtain ⟨r, D⟩ := D
  refine fn_top (body := lawBody) (l := [("script", .lst (intsM ss))]) (KR := fun m => m = .bool true) (binds := [("script", .ref a)]) D F.lim rfl ⟨rfl, rfl, rfl⟩ hbase hos hgens ?_ ⟨rfl, .lst (n := 0) hl (intsM_rel hi), trivial⟩ rfl (law_all F (by omega) hz fun _ _ => rfl) (fun g ρ m v s' hm r h1 h2 h3 => ?_)
  · rfl
  · subst hm; cases r; exact hQ s' h1 h2 h3

/-- all that the proof asks of the heap of the top, as the head has it -/
theorem pr_of {W : Wd} {K : Frag} {mg mb : Str → Option Value} (X : K.In W.base) (lim : W.base.NoLimit) (hg : W.base.Ns mainGlobals mg) (hb : W.base.Ns builtinsNs mb) (hB : ∀ x : Str, x ≠ "__name__" → mb x = bootBuiltins x)
    {o : Obj} {es : Array DictEntry} {ep : Nat} (e : K.lookup mainGlobals = some o) (hd : o.data = .dict es ep)
    (hk : (es.toList.all fun e => match e.key with | .str _ _ => true | _ => false) = true) (h1 : globOk es = true) (h2 : keepOk K = true) (h3 : methOk K = true)
    (h4 : plainGet K hdrCls "_list" = true ∧ hasDictIn K hdrCls = true ∧ findIn K (.ref hdrCls) "_list" = some none) : Sf W K :=
  ⟨X, lim, glob_of X hg hb hB e hd hk h1, fun v hv => List.all_eq_true.mp h2 v hv, meth_of h3, h4⟩
end
end Mine
open PySem PySem.W PySem.W.X PyProof.Rows
set_option maxHeartbeats 0 in
theorem PySem.Challenge.cw_vn0045_01_holds : PySem.Challenge.rw_vn0045_01.Holds := by
  w_on
  o_law
  z_head
  (case hw => w_witness2)
  k_fill
  intro w s₀ s₁ mg mb G y fa o pm cd doc dV kV ho hd hcd hD hmg hg args vals as L hpre hlay hrd hwl hlo
  z_open y L KX ZH ZN ZT
  refine Ground.open G ?_
  intro T B D TE TW
  wrow_args hpre hlay hrd hwl hlo
  obtain ⟨hat, hsz⟩ := script_at L
  rw [ZN] at hat hsz
  subst hat
  x_fa T KX hmg
  all_lens
  rename IntsAre _ _ => hI
  rename Heap.IsList _ _ _ => hLs
  have hObj := script_obj L hLs
  have F : Mine.Pr ⟨PySem.Challenge.rw_vn0045_01.row.prog, w, s₁.heap, s₁.os⟩ _ :=
    { toSy := { toSx := { toSf := Mine.pr_of KX T.nolimit T.g T.b T.builtins rfl rfl rfl (by kernel_rfl) (by kernel_rfl) (by kernel_rfl) ⟨rfl, rfl, rfl⟩
                          bad := ⟨_, _, _, _, _, _, _, _, _, _, _, _, _, _, _, _, KX 71 _ rfl, Mine.ns_in KX rfl rfl rfl, rfl⟩
                          isi := Mine.isi_of (by kernel_rfl)
                          own := ⟨rfl, rfl, rfl, rfl, rfl⟩
                          make := rfl
                          seta := ⟨rfl, rfl, rfl⟩ }
                nosq := rfl
                fngi := rfl }
      re := ⟨⟨_, _, _, _, _, _, KX 536 _ rfl, KX _ _ rfl⟩⟩
      f295 := Mine.fnDs_of KX ⟨_, _, _, _, _, _, _⟩ _ _ rfl rfl rfl rfl
      f302 := Mine.fnD_of KX ⟨_, _, _, _, _, _, _⟩ rfl rfl rfl
      f309 := Mine.fnD_of KX ⟨_, _, _, _, _, _, _⟩ rfl rfl rfl
      f314 := Mine.fnD_of KX ⟨_, _, _, _, _, _, _⟩ rfl rfl rfl
      f322 := Mine.fnDs_of KX ⟨_, _, _, _, _, _, _⟩ _ _ rfl rfl rfl rfl
      f327 := Mine.fnD_of KX ⟨_, _, _, _, _, _, _⟩ rfl rfl rfl
      f342 := Mine.fnDs_of KX ⟨_, _, _, _, _, _, _⟩ _ _ rfl rfl rfl rfl
      f350 := Mine.fnDs_of KX ⟨_, _, _, _, _, _, _⟩ _ _ rfl rfl rfl rfl
      f357 := Mine.fnD_of KX ⟨_, _, _, _, _, _, _⟩ rfl rfl rfl
      f365 := Mine.fnDs_of KX ⟨_, _, _, _, _, _, _⟩ _ _ rfl rfl rfl rfl
      f379 := Mine.fnD_of KX ⟨_, _, _, _, _, _, _⟩ rfl rfl rfl
      f386 := Mine.fnD_of KX ⟨_, _, _, _, _, _, _⟩ rfl rfl rfl
      f394 := Mine.fnDs_of KX ⟨_, _, _, _, _, _, _⟩ _ _ rfl rfl rfl rfl
      f408 := Mine.fnD_of KX ⟨_, _, _, _, _, _, _⟩ rfl rfl rfl
      f415 := Mine.fnD_of KX ⟨_, _, _, _, _, _, _⟩ rfl rfl rfl
      f422 := Mine.fnD_of KX ⟨_, _, _, _, _, _, _⟩ rfl rfl rfl
      f429 := Mine.fnD_of KX ⟨_, _, _, _, _, _, _⟩ rfl rfl rfl
      f448 := Mine.fnD_of KX ⟨_, _, _, _, _, _, _⟩ rfl rfl rfl
      f455 := Mine.fnD_of KX ⟨_, _, _, _, _, _, _⟩ rfl rfl rfl
      f462 := Mine.fnD_of KX ⟨_, _, _, _, _, _, _⟩ rfl rfl rfl
      f474 := Mine.fnD_of KX ⟨_, _, _, _, _, _, _⟩ rfl rfl rfl
      f482 := Mine.fnDs_of KX ⟨_, _, _, _, _, _, _⟩ _ _ rfl rfl rfl rfl
      f503 := Mine.fnD_of KX ⟨_, _, _, _, _, _, _⟩ rfl rfl rfl
      f510 := Mine.fnD_of KX ⟨_, _, _, _, _, _, _⟩ rfl rfl rfl
      f517 := Mine.fnD_of KX ⟨_, _, _, _, _, _, _⟩ rfl rfl rfl
      f81 := Mine.fnD_of KX ⟨_, _, _, _, _, _, _⟩ rfl rfl rfl
      f543 := Mine.fnD_of KX ⟨_, _, _, _, _, _, _⟩ rfl rfl rfl
      f550 := Mine.fnD_of KX ⟨_, _, _, _, _, _, _⟩ rfl rfl rfl
      f555 := Mine.fnD_of KX ⟨_, _, _, _, _, _, _⟩ rfl rfl rfl
      f560 := Mine.fnD_of KX ⟨_, _, _, _, _, _, _⟩ rfl rfl rfl
      f567 := Mine.fnD_of KX ⟨_, _, _, _, _, _, _⟩ rfl rfl rfl }
  refine Mine.law_run F (Mine.fnD_of KX ⟨_, _, _, _, _, _, _⟩ rfl rfl rfl) (fun _ _ e => e) rfl (.of_eq hg) hObj hI (by omega) fun s' h1 h2 h3 => ?_
  refine ⟨.inl ⟨_, .bool true, [], rfl, fun _ => rfl, .bool true, ?_, fun _ => ⟨.nil, fun _ h => absurd h List.not_mem_nil⟩⟩, .of_keep h1, h2, h3⟩
  wrow_post
