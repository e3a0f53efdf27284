/-
  THE WALKS THAT SEVERAL STATEMENTS OF THIS SEAT SHARE: lowerASCII, ZZLowerASCII, zzDnsB1IsLetter, zzDnsB1CasePartners: each computes the plain function of Qxb6603740aPlain.
-/
import Derived.Test.Qxb6603740aRows
import Derived.Test.Qxb6603740aPlain
import Derived.WalkKit
import Derived.ProofKit
import Derived.OpenShut
import Derived.ShutString
import Derived.ChangeOld
import Derived.Below
import Derived.WalkSpells
import Derived.WalkLawsBesides
namespace Go.Proofs.Qxb6603740a
open Go.ChangeShapes Go.WideShapes Go.ChangeAt Go.RowKit

theorem ret_int {k : IntKind} {a b : Int} (h : a = b) : Ending.returned (.int k a) = .returned (.int k b) := by rw [h]
theorem ret_bool {a b : Bool} (h : a = b) : Ending.returned (.bool a) = .returned (.bool b) := by rw [h]

theorem u8_bd {a : Int} (h : (Lit.int .u8 a).wf = true) : 0 ≤ a ∧ a ≤ 255 := bounds_u8 h

theorem lower_any (c : Int) (h0 : 0 ≤ c) (h1 : c ≤ 255) (w : World) :
    Calls Try.prog 23 #[.int .u8 c] w fun e w' => e = .returned (.int .u8 (low c)) ∧ w' = w := by
  by_cases c1 : 65 ≤ c
  · by_cases c2 : c ≤ 90
    · rw [low_up c1 c2]
      go_enter Try.func23, Try.ntmps23
      go_wp2
      go_ret
      exact ⟨ret_int (by omega), rfl⟩
    · rw [low_gt c2]
      go_enter Try.func23, Try.ntmps23
      go_wp2
      go_ret
      exact ⟨rfl, rfl⟩
  · rw [low_lt c1]
    go_enter Try.func23, Try.ntmps23
    go_wp2
    go_ret
    exact ⟨rfl, rfl⟩

theorem zzlower_any (c : Int) (h0 : 0 ≤ c) (h1 : c ≤ 255) (w : World) :
    Calls Try.prog 10 #[.int .u8 c] w fun e w' => e = .returned (.int .u8 (low c)) ∧ w' = w := by
  go_enter Try.func10, Try.ntmps10
  go_wp2_with (go_at_call 23; refine (lower_any c h0 h1 _).mono ?_; rintro e w' ⟨rfl, rfl⟩)
  go_ret
  exact ⟨rfl, rfl⟩

theorem letter_any (c : Int) (h0 : 0 ≤ c) (h1 : c ≤ 255) (w : World) :
    Calls Try.prog 17 #[.int .u8 c] w fun e w' => e = .returned (.bool (letB c)) ∧ w' = w := by
  by_cases h : 97 ≤ bits .or .u8 c 32
  · rw [← letter_yes h0 h1 h]
    go_enter Try.func17, Try.ntmps17
    go_wp2
    go_ret
    exact ⟨rfl, rfl⟩
  · rw [letter_no h0 h1 (by omega)]
    go_enter Try.func17, Try.ntmps17
    go_wp2
    go_ret
    exact ⟨rfl, rfl⟩

theorem part_any (c d : Int) (h0 : 0 ≤ c) (h1 : c ≤ 255) (g0 : 0 ≤ d) (g1 : d ≤ 255) (w : World) :
    Calls Try.prog 11 #[.int .u8 c, .int .u8 d] w fun e w' => e = .returned (.bool (sameB c d)) ∧ w' = w := by
  by_cases hcd : c = d
  · subst hcd
    rw [sameB_refl]
    go_enter Try.func11, Try.ntmps11
    go_wp2
    go_ret
    exact ⟨rfl, rfl⟩
  · have hne : (c == d) = false := by simpa using hcd
    clear hcd
    cases hx : (bits .xor .u8 c d == 32)
    · rw [part_no h0 h1 g0 g1 hne hx]
      go_enter Try.func11, Try.ntmps11
      go_wp2
      go_ret
      exact ⟨rfl, rfl⟩
    · rw [← part_yes h0 h1 g0 g1 hx]
      go_enter Try.func11, Try.ntmps11
      go_wp2_with (go_at_call 17; refine (letter_any c h0 h1 _).mono ?_; rintro e w' ⟨rfl, rfl⟩)
      go_ret
      exact ⟨rfl, rfl⟩
end Go.Proofs.Qxb6603740a
