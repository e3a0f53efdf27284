/-
  THE WALK OF FnNameEqualEquivalence.
-/
import Derived.Test.Qxb6603740aEqual
namespace Go.Proofs.Qxb6603740a
open Go.ChangeShapes Go.WideShapes Go.ChangeAt Go.RowKit

/-- The bound on the total length: some answer; no memory is touched. -/
theorem bytes15_any (a b c : Option Addr) (n0 c0 n1 c1 n2 c2 : Nat) (w : World) :
    Calls Try.prog 15 #[.slice a n0 c0, .slice b n1 c1, .slice c n2 c2] w fun e w' => (∃ t, e = .returned (.bool t)) ∧ w' = w := by
  go_enter Try.func15, Try.ntmps15
  go_wp2
  all_goals
    go_ret
    exact ⟨⟨_, rfl⟩, rfl⟩

theorem equiv_any (a b c : Option Addr) (n0 c0 n1 c1 n2 c2 : Nat) (xs ys zs : List Int) (w : World)
    (ha : Came .u8 w a n0 xs) (hb : Came .u8 w b n1 ys) (hc : Came .u8 w c n2 zs) (ka : a = none → c0 = 0) (kb : b = none → c1 = 0) (kc : c = none → c2 = 0)
    (ox : Octets xs) (oy : Octets ys) (oz : Octets zs) :
    Calls Try.prog 7 #[.slice a n0 c0, .slice b n1 c1, .slice c n2 c2] w fun e w' => e = .returned (.bool true) ∧ Below w.heap.size w w' := by
  have HA : Hid (Came .u8 w a n0 xs) := ha
  have HB : Hid (Came .u8 w b n1 ys) := hb
  have HC : Hid (Came .u8 w c n2 zs) := hc
  have KA : Hid (a = none → c0 = 0) := ka
  have KB : Hid (b = none → c1 = 0) := kb
  have KC : Hid (c = none → c2 = 0) := kc
  have OX : Hid (Octets xs) := ox
  have OY : Hid (Octets ys) := oy
  have OZ : Hid (Octets zs) := oz
  clear ha hb hc ka kb kc ox oy oz
  go_enter Try.func7, Try.ntmps7
  go_wp2_with fail
  refine (bytes15_any a b c n0 c0 n1 c1 n2 c2 _).mono ?_
  rintro e w0 ⟨⟨t, rfl⟩, rfl⟩
  cases t
  · go_wp2
    go_ret
    exact ⟨rfl, Below.refl _ _⟩
  go_wp2_with fail
  all_goals try (go_ret; exact ⟨rfl, Below.refl _ _⟩)
  refine (clone8_any a n0 c0 xs _ HA.out KA.out (by omega)).mono ?_
  rintro e w1 ⟨a', rfl, -, hOa, hB1⟩
  have HOA : Hid (Own .u8 5 w1 a' xs) := hOa
  have HB1 : Hid (Below w0.heap.size w0 w1) := hB1
  clear hOa hB1
  go_wp2_with fail
  refine (clone8_any b n1 c1 ys _ (HB.out.below HB1.out) KB.out (by omega)).mono ?_
  rintro e w2 ⟨b', rfl, -, hOb, hB2⟩
  have HOA2 : Hid (Own .u8 5 w2 a' xs) := HOA.out.below hB2
  have HOB : Hid (Own .u8 5 w2 b' ys) := hOb
  have HB2 : Hid (Below w0.heap.size w0 w2) := HB1.out.trans (hB2.mono HB1.out.size)
  clear hOb hB2 HOA HB1
  go_wp2_with fail
  refine (clone8_any c n2 c2 zs _ (HC.out.below HB2.out) KC.out (by omega)).mono ?_
  rintro e w3 ⟨c', rfl, -, hOc, hB3⟩
  have HOA : Hid (Own .u8 5 w3 a' xs) := HOA2.out.below hB3
  have HOB2 : Hid (Own .u8 5 w3 b' ys) := HOB.out.below hB3
  have HOC : Hid (Own .u8 5 w3 c' zs) := hOc
  have HB3 : Hid (Below w0.heap.size w0 w3) := HB2.out.trans (hB3.mono HB2.out.size)
  clear hOc hB3 HOA2 HOB HB2
  have LX : Hid (xs.length = n0) := HA.out.1
  have LY : Hid (ys.length = n1) := HB.out.1
  have LZ : Hid (zs.length = n2) := HC.out.1
  go_wp2_with fail
  refine (eq_any a' a' n0 n0 xs xs _ HOA.out HOA.out LX.out LX.out (by omega) (by omega) OX.out OX.out).mono ?_
  rw [nameEq_refl]
  rintro e w4 ⟨rfl, q1, rfl⟩
  go_wp2_with fail
  refine (eq_any a' b' n0 n1 xs ys _ (HOA.out.drewN _) (HOB2.out.drewN _) LX.out LY.out (by omega) (by omega) OX.out OY.out).mono ?_
  rintro e w4 ⟨rfl, q2, rfl⟩
  go_wp2_with fail
  refine (eq_any b' a' n1 n0 ys xs _ (HOB2.out.drewN _) (HOA.out.drewN _) LY.out LX.out (by omega) (by omega) OY.out OX.out).mono ?_
  rw [nameEq_symm ys xs]
  have TR : Hid (nameEq xs ys = true → nameEq ys zs = true → nameEq xs zs = true) := nameEq_trans
  generalize nameEq xs ys = t1 at *
  rintro e w4 ⟨rfl, q3, rfl⟩
  cases t1
  · go_wp2
    go_ret
    exact ⟨rfl, below_drewN HB3.out _⟩
  go_wp2_with fail
  refine (eq_any b' c' n1 n2 ys zs _ (HOB2.out.drewN _) (HOC.out.drewN _) LY.out LZ.out (by omega) (by omega) OY.out OZ.out).mono ?_
  have TR2 : Hid (nameEq ys zs = true → nameEq xs zs = true) := fun h => TR.out (by trivial) h
  clear TR
  generalize nameEq ys zs = t2 at *
  rintro e w4 ⟨rfl, q4, rfl⟩
  cases t2
  · go_wp2
    go_ret
    exact ⟨rfl, below_drewN HB3.out _⟩
  go_wp2_with fail
  refine (eq_any a' c' n0 n2 xs zs _ (HOA.out.drewN _) (HOC.out.drewN _) LX.out LZ.out (by omega) (by omega) OX.out OZ.out).mono ?_
  rw [TR2.out (by trivial)]
  rintro e w4 ⟨rfl, q5, rfl⟩
  go_wp2
  go_ret
  exact ⟨rfl, below_drewN HB3.out _⟩
end Go.Proofs.Qxb6603740a
