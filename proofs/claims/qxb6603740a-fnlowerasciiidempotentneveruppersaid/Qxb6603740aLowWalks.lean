/-
  THE WALKS OF THE THREE LAWS ON lowerASCII.
-/
import Derived.Test.Qxb6603740aBase
namespace Go.Proofs.Qxb6603740a
open Go.ChangeShapes Go.WideShapes Go.ChangeAt Go.RowKit

/-- ZZLowerASCII with its answer named. -/
theorem zzlower_is (c l : Int) (h0 : 0 ≤ c) (h1 : c ≤ 255) (hl : low c = l) (w : World) :
    Calls Try.prog 10 #[.int .u8 c] w fun e w' => e = .returned (.int .u8 l) ∧ w' = w := by
  subst hl; exact zzlower_any c h0 h1 w

theorem idem_up (c : Int) (h0 : 65 ≤ c) (h1 : c ≤ 90) (w : World) :
    Calls Try.prog 4 #[.int .u8 c] w fun e w' => e = .returned (.bool true) ∧ w' = w := by
  have H1 : Hid (low c = c + 32) := low_up h0 h1
  have H2 : Hid (low (c + 32) = c + 32) := low_gt (by omega)
  have hne : (c + 32 == c) = false := by simp; omega
  go_enter Try.func4, Try.ntmps4
  go_wp2_with fail
  refine (zzlower_is c (c + 32) (by omega) (by omega) H1.out _).mono ?_
  rintro e w' ⟨rfl, rfl⟩
  go_wp2_with fail
  refine (zzlower_is (c + 32) (c + 32) (by omega) (by omega) H2.out _).mono ?_
  rintro e w' ⟨rfl, rfl⟩
  go_wp2
  go_ret
  exact ⟨rfl, rfl⟩

theorem idem_same (c : Int) (h0 : 0 ≤ c) (h1 : c ≤ 255) (h : c < 65 ∨ 90 < c) (w : World) :
    Calls Try.prog 4 #[.int .u8 c] w fun e w' => e = .returned (.bool true) ∧ w' = w := by
  have hl : low c = c := by rcases h with h | h; exact low_lt (by omega); exact low_gt (by omega)
  have H1 : Hid (low c = c) := hl
  clear hl
  rcases h with h | h
  all_goals
    go_enter Try.func4, Try.ntmps4
    go_wp2_with fail
    refine (zzlower_is c c h0 h1 H1.out _).mono ?_
    rintro e w' ⟨rfl, rfl⟩
    go_wp2_with fail
    refine (zzlower_is c c h0 h1 H1.out _).mono ?_
    rintro e w' ⟨rfl, rfl⟩
    go_wp2
    go_ret
    exact ⟨rfl, rfl⟩

theorem idem_any (c : Int) (h0 : 0 ≤ c) (h1 : c ≤ 255) (w : World) :
    Calls Try.prog 4 #[.int .u8 c] w fun e w' => e = .returned (.bool true) ∧ w' = w := by
  by_cases h : 65 ≤ c ∧ c ≤ 90
  · exact idem_up c h.1 h.2 w
  · exact idem_same c h0 h1 (by omega) w

theorem folds_any (c d : Int) (h0 : 0 ≤ c) (h1 : c ≤ 255) (g0 : 0 ≤ d) (g1 : d ≤ 255) (w : World) :
    Calls Try.prog 5 #[.int .u8 c, .int .u8 d] w fun e w' => e = .returned (.bool true) ∧ w' = w := by
  go_enter Try.func5, Try.ntmps5
  go_wp2_with fail
  refine (zzlower_any c h0 h1 _).mono ?_
  rintro e w' ⟨rfl, rfl⟩
  go_wp2_with fail
  refine (zzlower_any d g0 g1 _).mono ?_
  rintro e w' ⟨rfl, rfl⟩
  go_wp2_with fail
  refine (part_any c d h0 h1 g0 g1 _).mono ?_
  rintro e w' ⟨rfl, rfl⟩
  go_wp2
  go_ret
  exact ⟨ret_bool (by simp [sameB]), rfl⟩

/-- The two tables, octet by octet. -/
theorem up_all26 : ∀ n : Fin 26, (({ data := #[65, 66, 67, 68, 69, 70, 71, 72, 73, 74, 75, 76, 77, 78, 79, 80, 81, 82, 83, 84, 85, 86, 87, 88, 89, 90] } : ByteArray)[n.val]'(n.isLt)).toNat = 65 + n.val := by decide +kernel
theorem lo_all26 : ∀ n : Fin 26, (({ data := #[97, 98, 99, 100, 101, 102, 103, 104, 105, 106, 107, 108, 109, 110, 111, 112, 113, 114, 115, 116, 117, 118, 119, 120, 121, 122] } : ByteArray)[n.val]'(n.isLt)).toNat = 97 + n.val := by decide +kernel

theorem want_end {c : Int} {k : Nat} (h : ¬ k < 26) (hk : k ≤ 26) : (if 65 ≤ c ∧ c < 65 + (k : Int) then c + 32 else c) = low c := by
  have : k = 26 := by omega
  subst this
  unfold low
  by_cases g : 65 ≤ c ∧ c ≤ 90
  · rw [if_pos g, if_pos (by omega)]
  · rw [if_neg g, if_neg (by omega)]

theorem table_any (c : Int) (h0 : 0 ≤ c) (h1 : c ≤ 255) (w : World) :
    Calls Try.prog 3 #[.int .u8 c] w fun e w' => e = .returned (.bool true) ∧ w' = w := by
  go_enter Try.func3, Try.ntmps3
  go_wp2
  go_loop [3, 4] (fun t i => ∃ k : Nat, k ≤ 26 ∧ i = .int .i64 k ∧ t = .int .u8 (if 65 ≤ c ∧ c < 65 + k then c + 32 else c)) (fun _ i => 26 - (intOf i).toNat)
  case atStart => exact ⟨0, Nat.zero_le _, rfl, by simp; omega⟩
  case round =>
    obtain ⟨k, hk, rfl, rfl⟩ := hrel
    by_cases hlt : k < 26
    · have hup := up_all26 ⟨k, hlt⟩
      have hlo := lo_all26 ⟨k, hlt⟩
      simp only [] at hup hlo
      by_cases hc : 65 + (k : Int) = c
      · subst hc
        rw [if_neg (by omega)]
        go_wp2
        go_round
        case rel => exact ⟨k + 1, by omega, by go_num, by rw [if_pos (by omega)]; go_num⟩
        case measure => simp [intOf]; omega
      · have hne : ((65 : Int) + k == c) = false := by simpa using hc
        have e : (if 65 ≤ c ∧ c < 65 + (k : Int) then c + 32 else c) = (if 65 ≤ c ∧ c < 65 + ((k + 1 : Nat) : Int) then c + 32 else c) := by
          by_cases g : 65 ≤ c ∧ c < 65 + (k : Int)
          · rw [if_pos g, if_pos (by omega)]
          · rw [if_neg g, if_neg (by omega)]
        have E : Hid ((if 65 ≤ c ∧ c < 65 + (k : Int) then c + 32 else c) = (if 65 ≤ c ∧ c < 65 + ((k + 1 : Nat) : Int) then c + 32 else c)) := e
        clear e
        generalize (if 65 ≤ c ∧ c < 65 + (k : Int) then c + 32 else c) = t at E ⊢
        go_wp2
        go_round
        case rel => exact ⟨k + 1, by omega, by go_num, by rw [← E.out]⟩
        case measure => simp [intOf]; omega
    · rw [want_end hlt hk]
      go_wp2_with (go_at_call 10; refine (zzlower_any c h0 h1 _).mono ?_; rintro e w' ⟨rfl, rfl⟩)
      go_ret
      exact ⟨ret_bool (by simp), rfl⟩
end Go.Proofs.Qxb6603740a
