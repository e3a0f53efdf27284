/-
  THE WALK OF (Name).Equal: the two names have the same octets once folded.
-/
import Derived.Test.Qxb6603740aClone
import Derived.Deep.QuietTactic
import Derived.BigQuiet
namespace Go.Proofs.Qxb6603740a
open Go.ChangeShapes Go.WideShapes Go.ChangeAt Go.RowKit

/-- What Equal computes. -/
def nameEq (xs ys : List Int) : Bool := decide (xs.map low = ys.map low)

theorem nameEq_refl (xs : List Int) : nameEq xs xs = true := by simp [nameEq]
theorem nameEq_symm (xs ys : List Int) : nameEq xs ys = nameEq ys xs := by unfold nameEq; rw [decide_eq_decide]; exact ⟨Eq.symm, Eq.symm⟩
theorem nameEq_trans {xs ys zs : List Int} (h : nameEq xs ys = true) (g : nameEq ys zs = true) : nameEq xs zs = true := by
  unfold nameEq at *
  rw [decide_eq_true_eq] at *
  exact h.trans g
theorem nameEq_len {xs ys : List Int} (h : xs.length ≠ ys.length) : nameEq xs ys = false := by
  unfold nameEq
  rw [decide_eq_false_iff_not]
  intro e
  have := congrArg List.length e
  simp at this
  exact h this

/-- The first k octets of both fold alike. -/
def alikeTo (xs ys : List Int) (k : Nat) : Prop := ∀ j, j < k → low (xs.getD j 0) = low (ys.getD j 0)
theorem alikeTo_zero (xs ys : List Int) : alikeTo xs ys 0 := fun j hj => by omega
theorem alikeTo_succ {xs ys : List Int} {k : Nat} (h : alikeTo xs ys k) (hk : low (xs.getD k 0) = low (ys.getD k 0)) : alikeTo xs ys (k + 1) := by
  intro j hj
  by_cases e : j = k
  · rw [e]; exact hk
  · exact h j (by omega)
theorem alikeTo_all {xs ys : List Int} {n : Nat} (hx : xs.length = n) (hy : ys.length = n) (h : alikeTo xs ys n) : nameEq xs ys = true := by
  unfold nameEq
  rw [decide_eq_true_eq]
  apply List.ext_getElem
  · simp [hx, hy]
  · intro i h1 h2
    simp at h1 h2
    have := h i (by omega)
    simp [List.getD, List.getElem?_eq_getElem h1, List.getElem?_eq_getElem h2] at this
    simpa using this
theorem alikeTo_not {xs ys : List Int} {n k : Nat} (hx : xs.length = n) (hy : ys.length = n) (hk : k < n) (h : ¬ low (xs.getD k 0) = low (ys.getD k 0)) : nameEq xs ys = false := by
  unfold nameEq
  rw [decide_eq_false_iff_not]
  intro e
  apply h
  have : (xs.map low)[k]? = (ys.map low)[k]? := by rw [e]
  rw [List.getElem?_map, List.getElem?_map, List.getElem?_eq_getElem (show k < xs.length by omega), List.getElem?_eq_getElem (show k < ys.length by omega)] at this
  simp [List.getD, List.getElem?_eq_getElem (show k < xs.length by omega), List.getElem?_eq_getElem (show k < ys.length by omega)]
  simpa using this

/-- Octets. -/
def Octets (zs : List Int) : Prop := ∀ j, j < zs.length → 0 ≤ zs.getD j 0 ∧ zs.getD j 0 ≤ 255

theorem eq_diff (a b : Option Addr) (n c m d : Nat) (h : n ≠ m) (_hn : n ≤ 1073741824) (_hm : m ≤ 1073741824) (w : World) :
    Calls Try.prog 14 #[.slice a n c, .slice b m d] w fun e w' => e = .returned (.bool false) ∧ w' = w := by
  have h' : ((n : Int) != (m : Int)) = true := by simp; omega
  go_enter Try.func14, Try.ntmps14
  go_wp2
  go_ret
  exact ⟨rfl, rfl⟩

theorem eq_zero (a b : Option Addr) (c d : Nat) (w : World) :
    Calls Try.prog 14 #[.slice a 0 c, .slice b 0 d] w fun e w' => e = .returned (.bool true) ∧ w' = w := by
  go_enter Try.func14, Try.ntmps14
  go_wp2
  refine wp_loop_rounds 1 ?_
  rw [rounds_succ]
  go_wp2
  go_ret
  exact ⟨rfl, rfl⟩

theorem eq_pos (g h n c d : Nat) (xs ys : List Int) (hn : n ≤ 1073741824) (hx : xs.length = n) (hy : ys.length = n) (ox : Octets xs) (oy : Octets ys) (w : World)
    (hg : Held .u8 5 w g xs) (hh : Held .u8 5 w h ys) :
    Calls Try.prog 14 #[.slice (some ⟨g, 0, none⟩) n c, .slice (some ⟨h, 0, none⟩) n d] w fun e w' => e = .returned (.bool (nameEq xs ys)) ∧ ∃ q, w' = w.drewN q := by
  have HX : Hid (xs.length = n) := hx
  have HY : Hid (ys.length = n) := hy
  have HG : Hid (Held .u8 5 w g xs) := hg
  have HH : Hid (Held .u8 5 w h ys) := hh
  have OX : Hid (Octets xs) := ox
  have OY : Hid (Octets ys) := oy
  clear hx hy hg hh ox oy
  go_enter Try.func14, Try.ntmps14
  go_wp2
  go_loopw [13] (fun i wr => ∃ k q : Nat, k ≤ n ∧ i = .int .i64 k ∧ Hid (alikeTo xs ys k) ∧ wr = w.drewN q) (fun i _ => n - (intOf i).toNat)
  case atStart => exact ⟨0, 0, Nat.zero_le _, rfl, alikeTo_zero _ _, rfl⟩
  case round =>
    obtain ⟨k, q, hk, rfl, hal, hw⟩ := hrel
    have HW : Hid (wr = w.drewN q) := hw
    have HG2 : Hid (Held .u8 5 wr g xs) := by rw [hw]; exact HG.out
    have HH2 : Hid (Held .u8 5 wr h ys) := by rw [hw]; exact HH.out
    clear hw
    by_cases hlt : k < n
    · have cx := HG2.out.cell k (by rw [HX.out]; exact hlt)
      have cy := HH2.out.cell k (by rw [HY.out]; exact hlt)
      obtain ⟨bx0, bx1⟩ := OX.out k (by rw [HX.out]; exact hlt)
      obtain ⟨by0, by1⟩ := OY.out k (by rw [HY.out]; exact hlt)
      have hltI : (k : Int) < (n : Int) := by omega
      have SUC : Hid (low (xs.getD k 0) = low (ys.getD k 0) → alikeTo xs ys (k + 1)) := fun e => alikeTo_succ hal.out e
      have NOT : Hid (¬ low (xs.getD k 0) = low (ys.getD k 0) → nameEq xs ys = false) := fun e => alikeTo_not HX.out HY.out hlt e
      clear hal
      generalize xs.getD k 0 = x at *
      generalize ys.getD k 0 = y at *
      by_cases hl : low x = low y
      · have SUC2 : Hid (alikeTo xs ys (k + 1)) := SUC.out hl
        have hl' : (low x != low y) = false := by simp [hl]
        clear hl SUC NOT
        go_wp2
        go_quiet ((go_at_call 23; exact Calls.quiet_of_same (lower_any _ (by assumption) (by assumption) _)))
        go_wp2
        go_roundw
        case rel => exact ⟨k + 1, q + nq, by omega, by go_num, SUC2, by rw [HW.out]; simp⟩
        case measure => simp [intOf]; omega
      · have hl' : (low x != low y) = true := by simpa using hl
        have NO : Hid (nameEq xs ys = false) := NOT.out hl
        clear hl SUC NOT
        go_wp2
        go_quiet ((go_at_call 23; exact Calls.quiet_of_same (lower_any _ (by assumption) (by assumption) _)))
        go_wp2
        go_ret
        exact ⟨ret_bool NO.out.symm, q + nq, by rw [HW.out]; simp⟩
    · have e : k = n := by omega
      have YES : Hid (nameEq xs ys = true) := alikeTo_all HX.out HY.out (e ▸ hal.out)
      clear e hal
      go_wp2
      go_ret
      exact ⟨ret_bool YES.out.symm, q, HW.out⟩

/-- EQUAL, for two names of the call's own (or nil). -/
theorem eq_any (a b : Option Addr) (n m : Nat) (xs ys : List Int) (w : World) (ha : Own .u8 5 w a xs) (hb : Own .u8 5 w b ys) (hx : xs.length = n) (hy : ys.length = m)
    (hn : n ≤ 1073741824) (hm : m ≤ 1073741824) (ox : Octets xs) (oy : Octets ys) :
    Calls Try.prog 14 #[.slice a n n, .slice b m m] w fun e w' => e = .returned (.bool (nameEq xs ys)) ∧ ∃ q, w' = w.drewN q := by
  by_cases h : n = m
  · subst h
    by_cases h0 : n = 0
    · subst h0
      have e1 := List.eq_nil_of_length_eq_zero hx
      have e2 := List.eq_nil_of_length_eq_zero hy
      subst e1 e2
      refine (eq_zero a b 0 0 w).mono fun e w' ⟨he, hw⟩ => ?_
      exact ⟨he, 0, hw⟩
    · obtain ⟨g, rfl, hg⟩ := ha.pos (by omega)
      obtain ⟨g', rfl, hg'⟩ := hb.pos (by omega)
      exact eq_pos g g' n n n xs ys hn hx hy ox oy w hg hg'
  · rw [nameEq_len (by omega)]
    refine (eq_diff a b n n m m h hn hm w).mono fun e w' ⟨he, hw⟩ => ?_
    exact ⟨he, 0, hw⟩
end Go.Proofs.Qxb6603740a
