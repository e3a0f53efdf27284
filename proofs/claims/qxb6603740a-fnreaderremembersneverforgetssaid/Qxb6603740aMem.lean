/-
  SMALL FACTS ON MEMORY: a row of numbers that the call itself made ('Held'), and what a slice that came in reads ('Came'). No function of the program in sight.
-/
import Derived.WalkKit
import Derived.WalkSmall
import Derived.ProofKit
namespace Go.Proofs.Qxb6603740a
open Go.ChangeShapes Go.WideShapes Go.ChangeAt Go.RowKit

/-- Block g is a row of the numbers zs, of kind k and element type e, not frozen. -/
def Held (k : IntKind) (e : TypeId) (w : World) (g : Nat) (zs : List Int) : Prop := w.heap[g]? = some (.cells (zs.map (Value.int k)).toArray e (0, 0))

section
variable {k : IntKind} {e : TypeId} {w w' : World} {g : Nat} {zs : List Int}

theorem Held.cell (h : Held k e w g zs) (j : Nat) (hj : j < zs.length) : w.cell? ⟨g, j, none⟩ = some (.int k (zs.getD j 0)) := by
  rw [cell_of_row w g j _ e (0, 0) h]
  simp [hj]
theorem Held.free (h : Held k e w g zs) (j : Nat) : w.frozen? ⟨g, j, none⟩ = false := frozen_of_row w g j _ e h
theorem Held.lt (h : Held k e w g zs) : g < w.heap.size := (Array.getElem?_eq_some_iff.1 h).1
theorem Held.below {B : Nat} (h : Held k e w g zs) (hb : Below B w w') (hg : g < B) : Held k e w' g zs := (hb.block g hg).trans h
theorem Held.drewN (h : Held k e w g zs) (n : Nat) : Held k e (w.drewN n) g zs := h
theorem Held.alloc (h : Held k e w g zs) (o : Obj) : Held k e (w.alloc o) g zs := (Below.heap_alloc w o g h.lt).trans h
theorem Held.store (h : Held k e w g zs) (j : Nat) (x : Int) : Held k e (w.setCell ⟨g, j, none⟩ (.int k x)) g (zs.set j x) := by
  have := heap_setCell_same w g j _ e (.int k x) h
  unfold Held
  rw [this]
  simp [List.map_set]
theorem Held.other (h : Held k e w g zs) {a : Addr} (hne : g ≠ a.block) (v : Value) : Held k e (w.setCell a v) g zs := (heap_setCell_other w a g v hne).trans h
theorem Held.made (k : IntKind) (e : TypeId) (w : World) (n : Nat) : Held k e (w.alloc (.cells (madeCells #[.int k 0] n) e)) w.heap.size (List.replicate n 0) := by
  unfold Held
  rw [heap_alloc_new]
  have : madeCells #[Value.int k 0] n = (List.map (Value.int k) (List.replicate n 0)).toArray := by
    apply Array.toList_inj.1
    rw [toList_madeCells_one]
    simp
  rw [this]
end

/-- What the first n places hold after j rounds of a copy: the first j numbers of zs, then zeros. -/
def copied (zs : List Int) (n j : Nat) : List Int := zs.take j ++ List.replicate (n - j) 0
theorem copied_zero (zs : List Int) (n : Nat) : copied zs n 0 = List.replicate n 0 := by simp [copied]
theorem copied_all (zs : List Int) : copied zs zs.length zs.length = zs := by simp [copied]
theorem copied_len (zs : List Int) (n j : Nat) (hn : zs.length = n) (hj : j ≤ n) : (copied zs n j).length = n := by
  simp [copied]; omega
theorem copied_set (zs : List Int) (n j : Nat) (hn : zs.length = n) (hj : j < n) : (copied zs n j).set j (zs.getD j 0) = copied zs n (j + 1) := by
  unfold copied
  have h1 : (zs.take j).length = j := by simp; omega
  rw [List.set_append_right _ _ (by omega), h1, Nat.sub_self]
  rw [List.take_succ_eq_append_getElem (by omega)]
  have h2 : n - j = (n - (j + 1)) + 1 := by omega
  rw [h2, List.replicate_succ, List.set_cons_zero]
  have h3 : zs.getD j 0 = zs[j] := by simp [List.getD, List.getElem?_eq_getElem (show j < zs.length by omega)]
  rw [h3, List.append_assoc]
  rfl

/-- What a walk is told of a slice of integers that came in: it is nil, or it is empty, or it leads to a row whose first 'len' cells are the numbers zs. -/
def Came (k : IntKind) (w : World) (a : Option Addr) (len : Nat) (zs : List Int) : Prop :=
  zs.length = len ∧ ((a = none ∧ len = 0) ∨ (∃ x, a = some x ∧ len = 0) ∨ ∃ b off, a = some ⟨b, off, none⟩ ∧ b < w.heap.size ∧ ∀ i, i < len → w.cell? ⟨b, off + i, none⟩ = some (.int k (zs.getD i 0)))

theorem Came.below {k : IntKind} {w w' : World} {a : Option Addr} {len : Nat} {zs : List Int} (h : Came k w a len zs) (hb : Below w.heap.size w w') : Came k w' a len zs := by
  obtain ⟨hl, h⟩ := h
  refine ⟨hl, ?_⟩
  rcases h with h | h | ⟨b, off, rfl, hlt, hc⟩
  · exact .inl h
  · exact .inr (.inl h)
  · exact .inr (.inr ⟨b, off, rfl, Nat.lt_of_lt_of_le hlt hb.size, fun i hi => (hb.cell (by exact hlt)).trans (hc i hi)⟩)

/-- A slice's address that reads the numbers zs: it is nil, or it is the head of a row of the call's own. -/
def Own (k : IntKind) (e : TypeId) (w : World) (a : Option Addr) (zs : List Int) : Prop := (a = none ∧ zs = []) ∨ ∃ g, a = some ⟨g, 0, none⟩ ∧ Held k e w g zs

theorem Own.below {k : IntKind} {e : TypeId} {w w' : World} {a : Option Addr} {zs : List Int} (h : Own k e w a zs) (hb : Below w.heap.size w w') : Own k e w' a zs := by
  rcases h with h | ⟨g, rfl, h⟩
  · exact .inl h
  · exact .inr ⟨g, rfl, h.below hb h.lt⟩
theorem Own.drewN {k : IntKind} {e : TypeId} {w : World} {a : Option Addr} {zs : List Int} (h : Own k e w a zs) (n : Nat) : Own k e (w.drewN n) a zs := h
theorem Own.pos {k : IntKind} {e : TypeId} {w : World} {a : Option Addr} {zs : List Int} (h : Own k e w a zs) (hn : 0 < zs.length) : ∃ g, a = some ⟨g, 0, none⟩ ∧ Held k e w g zs := by
  rcases h with ⟨_, rfl⟩ | h
  · simp at hn
  · exact h
end Go.Proofs.Qxb6603740a
