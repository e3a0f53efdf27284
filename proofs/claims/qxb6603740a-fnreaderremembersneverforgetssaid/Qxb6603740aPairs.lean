/-
  SMALL FACTS ON MEMORY: a row of pairs of numbers that the call itself made ('PHeld': two cells an element). No function of the program in sight.
-/
import Derived.Test.Qxb6603740aMem
namespace Go.Proofs.Qxb6603740a
open Go.ChangeShapes Go.WideShapes Go.ChangeAt Go.RowKit

/-- Block g is a row of pairs: element j is (xs j, ys j), of kinds k1 and k2; not frozen. -/
def PHeld (k1 k2 : IntKind) (e : TypeId) (w : World) (g : Nat) (xs ys : List Int) : Prop :=
  ys.length = xs.length ∧ ∃ cs : Array Value, w.heap[g]? = some (.cells cs e (0, 0)) ∧ cs.size = xs.length * 2 ∧
    ∀ j, j < xs.length → cs[j * 2]? = some (.int k1 (xs.getD j 0)) ∧ cs[j * 2 + 1]? = some (.int k2 (ys.getD j 0))

section
variable {k1 k2 : IntKind} {e : TypeId} {w w' : World} {g : Nat} {xs ys : List Int}

theorem PHeld.fst (h : PHeld k1 k2 e w g xs ys) (j : Nat) (hj : j < xs.length) : w.cell? ⟨g, j * 2, none⟩ = some (.int k1 (xs.getD j 0)) := by
  obtain ⟨_, cs, hh, _, hc⟩ := h
  rw [cell_of_row w g _ cs e (0, 0) hh]
  exact (hc j hj).1
theorem PHeld.snd (h : PHeld k1 k2 e w g xs ys) (j : Nat) (hj : j < xs.length) : w.cell? ⟨g, j * 2 + 1, none⟩ = some (.int k2 (ys.getD j 0)) := by
  obtain ⟨_, cs, hh, _, hc⟩ := h
  rw [cell_of_row w g _ cs e (0, 0) hh]
  exact (hc j hj).2
theorem PHeld.free (h : PHeld k1 k2 e w g xs ys) (j : Nat) : w.frozen? ⟨g, j, none⟩ = false := by
  obtain ⟨_, cs, hh, _⟩ := h
  exact frozen_of_row w g j cs e hh
theorem PHeld.lt (h : PHeld k1 k2 e w g xs ys) : g < w.heap.size := by
  obtain ⟨_, cs, hh, _⟩ := h
  exact (Array.getElem?_eq_some_iff.1 hh).1
theorem PHeld.block (h : PHeld k1 k2 e w g xs ys) (hb : w'.heap[g]? = w.heap[g]?) : PHeld k1 k2 e w' g xs ys := by
  obtain ⟨hl, cs, hh, r⟩ := h
  exact ⟨hl, cs, hb.trans hh, r⟩
theorem PHeld.below {B : Nat} (h : PHeld k1 k2 e w g xs ys) (hb : Below B w w') (hg : g < B) : PHeld k1 k2 e w' g xs ys := h.block (hb.block g hg)
theorem PHeld.alloc (h : PHeld k1 k2 e w g xs ys) (o : Obj) : PHeld k1 k2 e (w.alloc o) g xs ys := h.block (Below.heap_alloc w o g h.lt)
theorem PHeld.other (h : PHeld k1 k2 e w g xs ys) {a : Addr} (hne : g ≠ a.block) (v : Value) : PHeld k1 k2 e (w.setCell a v) g xs ys := h.block (heap_setCell_other w a g v hne)

theorem getD_set_self {zs : List Int} {j : Nat} (h : j < zs.length) (v : Int) : (zs.set j v).getD j 0 = v := by simp [List.getD, List.getElem?_set_self h]
theorem getD_set_ne {zs : List Int} {i j : Nat} (h : i ≠ j) (v : Int) : (zs.set j v).getD i 0 = zs.getD i 0 := by simp [List.getD, List.getElem?_set_ne (Ne.symm h)]

theorem PHeld.store (h : PHeld k1 k2 e w g xs ys) (j : Nat) (x y : Int) :
    PHeld k1 k2 e ((w.setCell ⟨g, j * 2, none⟩ (.int k1 x)).setCell ⟨g, j * 2 + 1, none⟩ (.int k2 y)) g (xs.set j x) (ys.set j y) := by
  obtain ⟨hl, cs, hh, hs, hc⟩ := h
  have h1 := heap_setCell_same w g (j * 2) cs e (.int k1 x) hh
  have h2 := heap_setCell_same _ g (j * 2 + 1) _ e (.int k2 y) h1
  refine ⟨by simpa using hl, _, h2, by simpa using hs, ?_⟩
  intro i hi
  have hi' : i < xs.length := by simpa using hi
  by_cases hij : i = j
  · subst hij
    rw [getD_set_self hi', getD_set_self (by omega)]
    constructor
    · rw [Array.getElem?_setIfInBounds_ne (by omega), Array.getElem?_setIfInBounds_self_of_lt (by omega)]
    · rw [Array.getElem?_setIfInBounds_self_of_lt (by simp; omega)]
  · rw [getD_set_ne hij, getD_set_ne hij]
    constructor
    · rw [Array.getElem?_setIfInBounds_ne (by omega), Array.getElem?_setIfInBounds_ne (by omega)]; exact (hc i hi').1
    · rw [Array.getElem?_setIfInBounds_ne (by omega), Array.getElem?_setIfInBounds_ne (by omega)]; exact (hc i hi').2

theorem PHeld.made (k1 k2 : IntKind) (e : TypeId) (w : World) (n : Nat) :
    PHeld k1 k2 e (w.alloc (.cells (madeCells #[.int k1 0, .int k2 0] (n * 2)) e)) w.heap.size (List.replicate n 0) (List.replicate n 0) := by
  refine ⟨by simp, _, heap_alloc_new w _, by simp [size_madeCells], ?_⟩
  intro j hj
  have hj' : j < n := by simpa using hj
  have e0 : (List.replicate n (0 : Int)).getD j 0 = 0 := by simp [List.getD, hj']
  rw [e0]
  constructor
  · simp [madeCells, show j * 2 < n * 2 by omega]
  · simp [madeCells, show j * 2 + 1 < n * 2 by omega, show (j * 2 + 1) % 2 = 1 by omega]
end

/-- A slice's address that reads pairs: it is nil, or it is the head of a row of the call's own. -/
def POwn (k1 k2 : IntKind) (e : TypeId) (w : World) (a : Option Addr) (xs ys : List Int) : Prop := (a = none ∧ xs = [] ∧ ys = []) ∨ ∃ g, a = some ⟨g, 0, none⟩ ∧ PHeld k1 k2 e w g xs ys

theorem POwn.below {k1 k2 : IntKind} {e : TypeId} {w w' : World} {a : Option Addr} {xs ys : List Int} (h : POwn k1 k2 e w a xs ys) (hb : Below w.heap.size w w') : POwn k1 k2 e w' a xs ys := by
  rcases h with h | ⟨g, rfl, h⟩
  · exact .inl h
  · exact .inr ⟨g, rfl, h.below hb h.lt⟩
theorem POwn.len {k1 k2 : IntKind} {e : TypeId} {w : World} {a : Option Addr} {xs ys : List Int} (h : POwn k1 k2 e w a xs ys) : ys.length = xs.length := by
  rcases h with ⟨_, rfl, rfl⟩ | ⟨g, _, h⟩
  · rfl
  · exact h.1
end Go.Proofs.Qxb6603740a
