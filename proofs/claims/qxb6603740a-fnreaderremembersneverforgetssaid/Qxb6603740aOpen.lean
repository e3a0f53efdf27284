/-
  FROM WHAT THE FRAME TELLS OF A SLICE OF INTEGERS THAT CAME IN (the shell's 'IsRow', here 'RowIs') TO WHAT THE WALKS ASK ('Came', 'Octets').
-/
import Derived.Test.Qxb6603740aEqual
namespace Go.Proofs.Qxb6603740a
open Go.ChangeShapes Go.WideShapes Go.ChangeAt Go.RowKit

def RowIs (k : IntKind) (w : World) (a : Option Addr) (len cap : Nat) (zs : List Int) : Prop :=
  (a = none ∧ len = 0 ∧ cap = 0 ∧ zs = []) ∨
  ∃ x, a = some x ∧ len ≤ cap ∧ cap ≤ maxLen ∧ zs.length = cap ∧ (∀ i, i < zs.length → w.cell? (x.add i) = some (.int k (zs.getD i 0))) ∧ ∀ n ∈ zs, (Lit.int k n).wf = true

theorem getD_take {zs : List Int} {n i : Nat} (h : i < n) : (zs.take n).getD i 0 = zs.getD i 0 := by simp [List.getD, h]

theorem came_of {k : IntKind} {w : World} {a : Option Addr} {len cap : Nat} {zs : List Int} (h : RowIs k w a len cap zs) : Came k w a len (zs.take len) := by
  rcases h with ⟨rfl, rfl, rfl, rfl⟩ | ⟨x, rfl, hl, hm, hz, hc, _⟩
  · exact ⟨rfl, .inl ⟨rfl, rfl⟩⟩
  · refine ⟨by simp; omega, ?_⟩
    by_cases h0 : len = 0
    · exact .inr (.inl ⟨x, rfl, h0⟩)
    · obtain ⟨b, off, rfl, hc'⟩ := ints_at hc (by omega)
      refine .inr (.inr ⟨b, off, rfl, ?_, fun i hi => ?_⟩)
      · exact World.block_lt_of_cell? w _ (hc' 0 (by omega))
      · rw [getD_take hi]; exact hc' i (by omega)
theorem cap_of {k : IntKind} {w : World} {a : Option Addr} {len cap : Nat} {zs : List Int} (h : RowIs k w a len cap zs) : a = none → cap = 0 := by
  rcases h with ⟨_, _, h, _⟩ | ⟨x, rfl, _⟩
  · exact fun _ => h
  · intro h; cases h
theorem octets_of {w : World} {a : Option Addr} {len cap : Nat} {zs : List Int} (h : RowIs .u8 w a len cap zs) : Octets (zs.take len) := by
  have hw : ∀ n ∈ zs, (Lit.int .u8 n).wf = true := by
    rcases h with ⟨_, _, _, rfl⟩ | ⟨_, _, _, _, _, _, h⟩
    · intro n hn; simp at hn
    · exact h
  intro j hj
  have hj' : j < (zs.take len).length := hj
  have e : (zs.take len).getD j 0 = (zs.take len)[j] := by simp [List.getD, List.getElem?_eq_getElem hj']
  rw [e]
  exact u8_bd (hw _ (List.mem_of_mem_take (List.getElem_mem hj')))
end Go.Proofs.Qxb6603740a
