/-
  THE PLAIN FUNCTIONS AND LAWS ON OCTETS: no Go program in sight.
-/
import Derived.Laws.BitsAllLaws
namespace Go.Proofs.Qxb6603740a
open Go

/-- What lowerASCII computes. -/
def low (c : Int) : Int := if 65 ≤ c ∧ c ≤ 90 then c + 32 else c
/-- What zzDnsB1IsLetter computes. -/
def letB (c : Int) : Bool := (decide (65 ≤ c) && decide (c ≤ 90)) || (decide (97 ≤ c) && decide (c ≤ 122))
/-- What zzDnsB1CasePartners computes: do the two octets fold to one? -/
def sameB (c d : Int) : Bool := low c == low d

theorem low_up {c : Int} (h : 65 ≤ c) (h' : c ≤ 90) : low c = c + 32 := by unfold low; rw [if_pos ⟨h, h'⟩]
theorem low_lt {c : Int} (h : ¬ 65 ≤ c) : low c = c := by unfold low; rw [if_neg (fun g => h g.1)]
theorem low_gt {c : Int} (h : ¬ c ≤ 90) : low c = c := by unfold low; rw [if_neg (fun g => h g.2)]
theorem low_bd {c : Int} (h0 : 0 ≤ c) (h1 : c ≤ 255) : 0 ≤ low c ∧ low c ≤ 255 := by unfold low; split <;> omega

theorem sameB_refl (c : Int) : sameB c c = true := by simp [sameB]

theorem or32_all : ∀ n : Fin 256, (decide (97 ≤ (n.val ||| 32)) && decide ((n.val ||| 32) ≤ 122)) = letB (n.val : Int) := by decide +kernel
theorem flip_all : ∀ n : Fin 256, letB (n.val : Int) = sameB (n.val : Int) ((n.val ^^^ 32 : Nat) : Int) := by decide +kernel
theorem up_all : ∀ n : Fin 256, 65 ≤ n.val → n.val ≤ 90 → n.val ^^^ (n.val + 32) = 32 := by decide +kernel

/-- 'c | 0x20' lies among the small letters: c is a letter. -/
theorem letter_yes {c : Int} (h0 : 0 ≤ c) (h1 : c ≤ 255) (h : 97 ≤ bits .or .u8 c 32) : decide (bits .or .u8 c 32 ≤ 122) = letB c := by
  obtain ⟨n, rfl⟩ := Int.eq_ofNat_of_zero_le h0
  have e : bits .or .u8 (n : Int) 32 = ((n ||| 32 : Nat) : Int) := u8_or_nat n 32 (by omega) (by omega)
  rw [e] at h ⊢
  have a := or32_all ⟨n, by omega⟩
  rw [← a, show decide (97 ≤ (n ||| 32)) = true from decide_eq_true (by omega), Bool.true_and]
  rw [Bool.eq_iff_iff]; simp; omega
theorem letter_no {c : Int} (h0 : 0 ≤ c) (h1 : c ≤ 255) (h : bits .or .u8 c 32 < 97) : letB c = false := by
  obtain ⟨n, rfl⟩ := Int.eq_ofNat_of_zero_le h0
  have e : bits .or .u8 (n : Int) 32 = ((n ||| 32 : Nat) : Int) := u8_or_nat n 32 (by omega) (by omega)
  rw [e] at h
  have a := or32_all ⟨n, by omega⟩
  rw [← a]
  rw [Bool.and_eq_false_iff]; left; simp; omega

/-- 'c ^ 0x20' as a number, and its bounds. -/
theorem xor32 {c : Int} (h0 : 0 ≤ c) (h1 : c ≤ 255) : bits .xor .u8 c 32 = ((c.toNat ^^^ 32 : Nat) : Int) ∧ 0 ≤ bits .xor .u8 c 32 ∧ bits .xor .u8 c 32 ≤ 255 := by
  have e : bits .xor .u8 c 32 = ((c.toNat ^^^ 32 : Nat) : Int) := u8_xor c 32 h0 (by omega) (by omega) (by omega)
  have hx : c.toNat ^^^ 32 < 2 ^ 8 := Nat.xor_lt_two_pow (by omega) (by omega)
  rw [e]
  exact ⟨rfl, by omega, by omega⟩
/-- A letter, its case changed, folds to the same octet. -/
theorem flip_same {c : Int} (h0 : 0 ≤ c) (h1 : c ≤ 255) (h : letB c = true) : sameB c (bits .xor .u8 c 32) = true := by
  rw [(xor32 h0 h1).1]
  obtain ⟨n, rfl⟩ := Int.eq_ofNat_of_zero_le h0
  have a := flip_all ⟨n, by omega⟩
  rw [Int.toNat_natCast, ← a]
  exact h

theorem part_yes {c d : Int} (h0 : 0 ≤ c) (h1 : c ≤ 255) (g0 : 0 ≤ d) (g1 : d ≤ 255) (h : (bits .xor .u8 c d == 32) = true) : letB c = sameB c d := by
  have h' : bits .xor .u8 c d = 32 := by simpa using h
  rw [u8_xor c d h0 (by omega) g0 (by omega)] at h'
  obtain ⟨n, rfl⟩ := Int.eq_ofNat_of_zero_le h0
  obtain ⟨m, rfl⟩ := Int.eq_ofNat_of_zero_le g0
  rw [Int.toNat_natCast, Int.toNat_natCast] at h'
  have e : m = n ^^^ 32 := by
    have h2 : n ^^^ m = 32 := by omega
    rw [← h2, ← Nat.xor_assoc, Nat.xor_self, Nat.zero_xor]
  have a := flip_all ⟨n, by omega⟩
  rw [e]; exact a
theorem part_no {c d : Int} (h0 : 0 ≤ c) (h1 : c ≤ 255) (g0 : 0 ≤ d) (g1 : d ≤ 255) (hne : (c == d) = false) (h : (bits .xor .u8 c d == 32) = false) : sameB c d = false := by
  have hne' : c ≠ d := by simpa using hne
  have h' : bits .xor .u8 c d ≠ 32 := by simpa using h
  rw [u8_xor c d h0 (by omega) g0 (by omega)] at h'
  obtain ⟨n, rfl⟩ := Int.eq_ofNat_of_zero_le h0
  obtain ⟨m, rfl⟩ := Int.eq_ofNat_of_zero_le g0
  rw [Int.toNat_natCast, Int.toNat_natCast] at h'
  unfold sameB
  rw [beq_eq_false_iff_ne]
  intro hl
  unfold low at hl
  by_cases hn : 65 ≤ (n : Int) ∧ (n : Int) ≤ 90
  · by_cases hm : 65 ≤ (m : Int) ∧ (m : Int) ≤ 90
    · rw [if_pos hn, if_pos hm] at hl; omega
    · rw [if_pos hn, if_neg hm] at hl
      have a := up_all ⟨n, by omega⟩ (by simp; omega) (by simp; omega)
      have e : m = n + 32 := by omega
      rw [e] at h'
      exact h' (by simp only [] at a; rw [a]; rfl)
  · by_cases hm : 65 ≤ (m : Int) ∧ (m : Int) ≤ 90
    · rw [if_neg hn, if_pos hm] at hl
      have a := up_all ⟨m, by omega⟩ (by simp; omega) (by simp; omega)
      have e : n = m + 32 := by omega
      rw [e, Nat.xor_comm] at h'
      exact h' (by simp only [] at a; rw [a]; rfl)
    · rw [if_neg hn, if_neg hm] at hl; omega
end Go.Proofs.Qxb6603740a
