/-
  THE WALK OF FnNameEqualExact.
-/
import Derived.Test.Qxb6603740aEqual
namespace Go.Proofs.Qxb6603740a
open Go.ChangeShapes Go.WideShapes Go.ChangeAt Go.RowKit

/-- The bound on the total length: some answer; no memory is touched. -/
theorem bytes12_any (a b : Option Addr) (n0 c0 n1 c1 : Nat) (w : World) :
    Calls Try.prog 12 #[.slice a n0 c0, .slice b n1 c1] w fun e w' => (∃ t, e = .returned (.bool t)) ∧ w' = w := by
  go_enter Try.func12, Try.ntmps12
  go_wp2
  all_goals
    go_ret
    exact ⟨⟨_, rfl⟩, rfl⟩

theorem sameB_yes {x y : Int} (h : sameB x y = true) : low x = low y := by simpa [sameB] using h
theorem sameB_no {x y : Int} (h : sameB x y = false) : ¬ low x = low y := by simpa [sameB] using h

theorem exact_any (a b : Option Addr) (n0 c0 n1 c1 : Nat) (xs ys : List Int) (w : World)
    (ha : Came .u8 w a n0 xs) (hb : Came .u8 w b n1 ys) (ka : a = none → c0 = 0) (kb : b = none → c1 = 0)
    (ox : Octets xs) (oy : Octets ys) :
    Calls Try.prog 6 #[.slice a n0 c0, .slice b n1 c1] w fun e w' => e = .returned (.bool true) ∧ Below w.heap.size w w' := by
  have HA : Hid (Came .u8 w a n0 xs) := ha
  have HB : Hid (Came .u8 w b n1 ys) := hb
  have KA : Hid (a = none → c0 = 0) := ka
  have KB : Hid (b = none → c1 = 0) := kb
  have OX : Hid (Octets xs) := ox
  have OY : Hid (Octets ys) := oy
  clear ha hb ka kb ox oy
  go_enter Try.func6, Try.ntmps6
  go_wp2_with fail
  refine (bytes12_any a b n0 c0 n1 c1 _).mono ?_
  rintro e w0 ⟨⟨t, rfl⟩, rfl⟩
  cases t
  · go_wp2
    go_ret
    exact ⟨rfl, Below.refl _ _⟩
  go_wp2_with fail
  all_goals try (go_ret; exact ⟨rfl, Below.refl _ _⟩)
  refine (clone8_any a n0 c0 xs _ HA.out KA.out (by omega)).mono ?_
  rintro e w1 ⟨a', rfl, -, hOa, hB1⟩
  have HOA : Hid (Own .u8 5 w1 a' xs) := hOa
  have HB1 : Hid (Below w0.heap.size w0 w1) := hB1
  clear hOa hB1
  go_wp2_with fail
  refine (clone8_any b n1 c1 ys _ (HB.out.below HB1.out) KB.out (by omega)).mono ?_
  rintro e w2 ⟨b', rfl, -, hOb, hB2⟩
  have HOA2 : Hid (Own .u8 5 w2 a' xs) := HOA.out.below hB2
  have HOB : Hid (Own .u8 5 w2 b' ys) := hOb
  have HB2 : Hid (Below w0.heap.size w0 w2) := HB1.out.trans (hB2.mono HB1.out.size)
  clear hOb hB2 HOA HB1
  have LX : Hid (xs.length = n0) := HA.out.1
  have LY : Hid (ys.length = n1) := HB.out.1
  have bn0 : n0 ≤ 524288 := by omega
  have bn1 : n1 ≤ 524288 := by omega
  clear HA HB KA KB
  by_cases hne : n0 = n1
  · subst hne
    by_cases h0 : n0 = 0
    · subst h0
      go_wp2
      refine wp_loop_rounds 1 ?_
      rw [rounds_succ]
      go_wp2_with fail
      refine (eq_any a' b' 0 0 xs ys _ HOA2.out HOB.out LX.out LY.out (by omega) (by omega) OX.out OY.out).mono ?_
      rw [alikeTo_all LX.out LY.out (alikeTo_zero _ _)]
      rintro e w4 ⟨rfl, q5, rfl⟩
      go_wp2
      go_ret
      exact ⟨rfl, below_drewN HB2.out _⟩
    · obtain ⟨g, rfl, hg⟩ := HOA2.out.pos (by rw [LX.out]; omega)
      obtain ⟨h, rfl, hh⟩ := HOB.out.pos (by rw [LY.out]; omega)
      have HG : Hid (Held .u8 5 w2 g xs) := hg
      have HH : Hid (Held .u8 5 w2 h ys) := hh
      clear hg hh
      go_wp2
      go_loopw [5, 6] (fun t i wr => ∃ k q : Nat, k ≤ n0 ∧ i = .int .i64 k ∧ t = .bool true ∧ Hid (alikeTo xs ys k) ∧ wr = w2.drewN q) (fun _ i _ => n0 - (intOf i).toNat)
      case atStart => exact ⟨0, 0, Nat.zero_le _, rfl, rfl, alikeTo_zero _ _, rfl⟩
      case round =>
        obtain ⟨k, q, hk, rfl, rfl, hal, hw⟩ := hrel
        have HW : Hid (wr = w2.drewN q) := hw
        have HG2 : Hid (Held .u8 5 wr g xs) := by rw [hw]; exact HG.out
        have HH2 : Hid (Held .u8 5 wr h ys) := by rw [hw]; exact HH.out
        have HX2 : Hid (Own .u8 5 wr (some ⟨g, 0, none⟩) xs) := by rw [hw]; exact HOA2.out
        have HY2 : Hid (Own .u8 5 wr (some ⟨h, 0, none⟩) ys) := by rw [hw]; exact HOB.out
        have HB3 : Hid (Below w0.heap.size w0 wr) := by rw [hw]; exact below_drewN HB2.out _
        clear hw
        by_cases hlt : k < n0
        · have cx := HG2.out.cell k (by rw [LX.out]; exact hlt)
          have cy := HH2.out.cell k (by rw [LY.out]; exact hlt)
          obtain ⟨bx0, bx1⟩ := OX.out k (by rw [LX.out]; exact hlt)
          obtain ⟨by0, by1⟩ := OY.out k (by rw [LY.out]; exact hlt)
          have hltI : (k : Int) < (n0 : Int) := by omega
          have SUC : Hid (low (xs.getD k 0) = low (ys.getD k 0) → alikeTo xs ys (k + 1)) := fun e => alikeTo_succ hal.out e
          have NOT : Hid (¬ low (xs.getD k 0) = low (ys.getD k 0) → nameEq xs ys = false) := fun e => alikeTo_not LX.out LY.out hlt e
          clear hal
          generalize xs.getD k 0 = x at *
          generalize ys.getD k 0 = y at *
          cases hl : sameB x y
          · have NO : Hid (nameEq xs ys = false) := NOT.out (sameB_no hl)
            clear SUC NOT
            go_wp2
            go_quiet ((go_at_call 11; exact Calls.quiet_of_same (part_any _ _ (by assumption) (by assumption) (by assumption) (by assumption) _)))
            go_wp2_with fail
            refine (eq_any (some ⟨g, 0, none⟩) (some ⟨h, 0, none⟩) n0 n0 xs ys _ (HX2.out.drewN _) (HY2.out.drewN _) LX.out LY.out (by omega) (by omega) OX.out OY.out).mono ?_
            rw [NO.out]
            rintro e w4 ⟨rfl, q5, rfl⟩
            go_wp2
            go_ret
            exact ⟨rfl, below_drewN HB3.out _⟩
          · have SUC2 : Hid (alikeTo xs ys (k + 1)) := SUC.out (sameB_yes hl)
            clear SUC NOT
            go_wp2
            go_quiet ((go_at_call 11; exact Calls.quiet_of_same (part_any _ _ (by assumption) (by assumption) (by assumption) (by assumption) _)))
            go_wp2
            go_roundw
            case rel => exact ⟨k + 1, q + nq, by omega, by go_num, rfl, SUC2, by rw [HW.out]; simp⟩
            case measure => simp [intOf]; omega
        · have e : k = n0 := by omega
          have YES : Hid (nameEq xs ys = true) := alikeTo_all LX.out LY.out (e ▸ hal.out)
          clear e hal
          go_wp2_with fail
          refine (eq_any (some ⟨g, 0, none⟩) (some ⟨h, 0, none⟩) n0 n0 xs ys _ HX2.out HY2.out LX.out LY.out (by omega) (by omega) OX.out OY.out).mono ?_
          rw [YES.out]
          rintro e w4 ⟨rfl, q5, rfl⟩
          go_wp2
          go_ret
          exact ⟨rfl, below_drewN HB3.out _⟩
  · have hq : ((n0 : Int) == (n1 : Int)) = false := by simp; omega
    have NO : Hid (nameEq xs ys = false) := nameEq_len (by rw [LX.out, LY.out]; exact hne)
    go_wp2_with fail
    refine (eq_any a' b' n0 n1 xs ys _ HOA2.out HOB.out LX.out LY.out (by omega) (by omega) OX.out OY.out).mono ?_
    rw [NO.out]
    rintro e w4 ⟨rfl, q5, rfl⟩
    go_wp2
    go_ret
    exact ⟨rfl, below_drewN HB2.out _⟩
end Go.Proofs.Qxb6603740a
