/-
  THE WALKS OF zzTailsIn, zzTailsOut, zzStepsIn, zzStepsOut: two parallel slices into a slice of pairs, and back; nil stays nil.
-/
import Derived.Test.Qxb6603740aClone
import Derived.Test.Qxb6603740aPairs
namespace Go.Proofs.Qxb6603740a
open Go.ChangeShapes Go.WideShapes Go.ChangeAt Go.RowKit

theorem Try.info52 : (Try.prog.info? 52).map (fun i => (i.zero, i.size, i.bytes)) = some (some (.agg #[.int .u8 0, .int .u16 0]), 2, 4) := by kernel_rfl
theorem Try.info54 : (Try.prog.info? 54).map (fun i => (i.zero, i.size, i.bytes)) = some (some (.agg #[.int .u16 0, .int .u16 0]), 2, 4) := by kernel_rfl

/-- 'make([]tails, n)'. -/
theorem maketails (w : World) (n : Nat) (h : n ≤ 1073741824) :
    (Instr.makeSlice 40 (.int .i64 (n : Int)) (.int .i64 (n : Int))).run Try.prog w = .ok (.slice (some ⟨w.heap.size, 0, none⟩) n n) (w.alloc (.cells (madeCells #[.int .u8 0, .int .u16 0] (n * 2)) 52)) := by
  obtain ⟨i, hi, hz, hs, hb⟩ := info_parts Try.info52
  have := run_make (P := Try.prog) w 40 52 i (.agg #[.int .u8 0, .int .u16 0]) Try.underlying40 hi hz .i64 .i64 (n : Int) (n : Int) (by omega) (Int.le_refl _) (by rw [hb]; omega) (by omega)
  simpa [hs, Value.cells] using this

theorem tailsIn_nil (w : World) : Calls Try.prog 24 #[.slice none 0 0, .slice none 0 0] w fun e w' => e = .returned (.slice none 0 0) ∧ w' = w := by
  have q25 : ∀ (w : World) (a : Option Addr) (n c n' c' : Nat), (binOp .eql 25 (.slice a n c) (.slice none n' c')).run Try.prog w = .ok (.bool a.isNone) w := fun w a n c n' c' => Lib.run_eql_slice_nil w _ _ a n c n' c' Try.underlying25
  go_enter Try.func24, Try.ntmps24
  go_wp2
  go_ret
  exact ⟨rfl, rfl⟩

theorem tailsIn_some (ga gb n : Nat) (xs ys : List Int) (w : World) (hx : xs.length = n) (hy : ys.length = n) (hn : n ≤ 1073741824) (hga : Held .u8 5 w ga xs) (hgb : Held .u16 38 w gb ys) :
    Calls Try.prog 24 #[.slice (some ⟨ga, 0, none⟩) n n, .slice (some ⟨gb, 0, none⟩) n n] w fun e w' => e = .returned (.slice (some ⟨w.heap.size, 0, none⟩) n n) ∧ PHeld .u8 .u16 52 w' w.heap.size xs ys ∧ Below w.heap.size w w' := by
  have q25 : ∀ (w : World) (a : Option Addr) (n c n' c' : Nat), (binOp .eql 25 (.slice a n c) (.slice none n' c')).run Try.prog w = .ok (.bool a.isNone) w := fun w a n c n' c' => Lib.run_eql_slice_nil w _ _ a n c n' c' Try.underlying25
  have hmk := maketails w n hn
  have HX : Hid (xs.length = n) := hx
  have HY : Hid (ys.length = n) := hy
  have HA : Hid (Held .u8 5 w ga xs) := hga
  have HB : Hid (Held .u16 38 w gb ys) := hgb
  have LA := hga.lt
  have LB := hgb.lt
  have P0 : Hid (PHeld .u8 .u16 52 (w.alloc (.cells (madeCells #[.int .u8 0, .int .u16 0] (n * 2)) 52)) w.heap.size (copied xs n 0) (copied ys n 0)) := by rw [copied_zero, copied_zero]; exact PHeld.made .u8 .u16 52 w n
  have B0 : Hid (Below w.heap.size w (w.alloc (.cells (madeCells #[.int .u8 0, .int .u16 0] (n * 2)) 52))) := (Below.refl _ _).alloc (Nat.le_refl _) _
  clear hx hy hga hgb
  go_enter Try.func24, Try.ntmps24
  go_wp2
  go_loopw [6, 7] (fun i _ wr => ∃ k : Nat, k ≤ n ∧ i = .int .i64 k ∧ Hid (PHeld .u8 .u16 52 wr w.heap.size (copied xs n k) (copied ys n k)) ∧ Hid (Below w.heap.size w wr)) (fun i _ _ => n - (intOf i).toNat)
  case atStart => exact ⟨0, Nat.zero_le _, rfl, P0, B0⟩
  case round =>
    obtain ⟨k, hk, rfl, hP, hB⟩ := hrel
    clear hmk P0 B0
    by_cases hlt : k < n
    · have cx := (HA.out.below hB.out LA).cell k (by rw [HX.out]; exact hlt)
      have cy := (HB.out.below hB.out LB).cell k (by rw [HY.out]; exact hlt)
      have lc := copied_len xs n k HX.out hk
      have c1 := hP.out.fst k (by rw [lc]; exact hlt)
      have c2 := hP.out.snd k (by rw [lc]; exact hlt)
      have f1 := hP.out.free (k * 2)
      have f2 := hP.out.free (k * 2 + 1)
      have PN : Hid (PHeld .u8 .u16 52 ((wr.setCell ⟨w.heap.size, k * 2, none⟩ (.int .u8 (xs.getD k 0))).setCell ⟨w.heap.size, k * 2 + 1, none⟩ (.int .u16 (ys.getD k 0))) w.heap.size (copied xs n (k + 1)) (copied ys n (k + 1))) := by
        rw [← copied_set xs n k HX.out hlt, ← copied_set ys n k HY.out hlt]; exact hP.out.store k _ _
      have BN : Hid (Below w.heap.size w ((wr.setCell ⟨w.heap.size, k * 2, none⟩ (.int .u8 (xs.getD k 0))).setCell ⟨w.heap.size, k * 2 + 1, none⟩ (.int .u16 (ys.getD k 0)))) := (hB.out.setCell (Nat.le_refl _) _).setCell (Nat.le_refl _) _
      generalize xs.getD k 0 = x at *
      generalize ys.getD k 0 = y at *
      generalize (copied xs n k).getD k 0 = x' at *
      generalize (copied ys n k).getD k 0 = y' at *
      clear hP hB lc
      go_wp2
      go_roundw
      case rel => exact ⟨k + 1, by omega, by go_num, PN, BN⟩
      case measure => simp [intOf]; omega
    · have e : k = n := by omega
      have PN : Hid (PHeld .u8 .u16 52 wr w.heap.size xs ys) := by
        have h := hP.out
        rw [e] at h
        have e1 : copied xs n n = xs := by rw [← HX.out]; exact copied_all xs
        have e2 : copied ys n n = ys := by rw [← HY.out]; exact copied_all ys
        rw [e1, e2] at h
        exact h
      clear hP e
      go_wp2
      go_ret
      exact ⟨rfl, PN.out, hB.out⟩

theorem tailsIn_any (a b : Option Addr) (n : Nat) (xs ys : List Int) (w : World) (ha : Own .u8 5 w a xs) (hb : Own .u16 38 w b ys) (hab : b.isNone = a.isNone) (hx : xs.length = n) (hy : ys.length = n) (hn : n ≤ 1073741824) :
    Calls Try.prog 24 #[.slice a n n, .slice b n n] w fun e w' => ∃ a', e = .returned (.slice a' n n) ∧ a'.isNone = a.isNone ∧ POwn .u8 .u16 52 w' a' xs ys ∧ Below w.heap.size w w' := by
  rcases ha with ⟨rfl, rfl⟩ | ⟨g, rfl, hg⟩
  · rcases hb with ⟨rfl, rfl⟩ | ⟨h, rfl, _⟩
    · have : n = 0 := hx.symm
      subst this
      refine (tailsIn_nil w).mono fun e w' ⟨he, hw⟩ => ?_
      subst hw
      exact ⟨none, he, rfl, .inl ⟨rfl, rfl, rfl⟩, Below.refl _ _⟩
    · simp at hab
  · rcases hb with ⟨rfl, rfl⟩ | ⟨h, rfl, hh⟩
    · simp at hab
    · refine (tailsIn_some g h n xs ys w hx hy hn hg hh).mono fun e w' ⟨he, hp, hb⟩ => ?_
      exact ⟨some ⟨w.heap.size, 0, none⟩, he, rfl, .inr ⟨_, rfl, hp⟩, hb⟩

theorem tailsOut_nil (w : World) : Calls Try.prog 27 #[.slice none 0 0] w fun e w' => e = .returned (.tuple #[.slice none 0 0, .slice none 0 0]) ∧ w' = w := by
  have q25 : ∀ (w : World) (a : Option Addr) (n c n' c' : Nat), (binOp .eql 40 (.slice a n c) (.slice none n' c')).run Try.prog w = .ok (.bool a.isNone) w := fun w a n c n' c' => Lib.run_eql_slice_nil w _ _ a n c n' c' Try.underlying40
  go_enter Try.func27, Try.ntmps27
  go_wp2
  go_ret2
  exact ⟨rfl, rfl⟩

theorem tailsOut_some (g n : Nat) (xs ys : List Int) (w : World) (hx : xs.length = n) (hn : n ≤ 1073741824) (hg : PHeld .u8 .u16 52 w g xs ys) :
    Calls Try.prog 27 #[.slice (some ⟨g, 0, none⟩) n n] w fun e w' => e = .returned (.tuple #[.slice (some ⟨w.heap.size, 0, none⟩) n n, .slice (some ⟨w.heap.size + 1, 0, none⟩) n n]) ∧ Held .u8 5 w' w.heap.size xs ∧ Held .u16 38 w' (w.heap.size + 1) ys ∧ Below w.heap.size w w' := by
  have q25 : ∀ (w : World) (a : Option Addr) (n c n' c' : Nat), (binOp .eql 40 (.slice a n c) (.slice none n' c')).run Try.prog w = .ok (.bool a.isNone) w := fun w a n c n' c' => Lib.run_eql_slice_nil w _ _ a n c n' c' Try.underlying40
  have hmk := fun w => make8 w n hn
  have hmk2 := fun w => make16 w n hn
  have HX : Hid (xs.length = n) := hx
  have HY : Hid (ys.length = n) := hg.1.trans hx
  have HG : Hid (PHeld .u8 .u16 52 w g xs ys) := hg
  have LG := hg.lt
  have P1 : Hid (Held .u8 5 ((w.alloc (.cells (madeCells #[.int .u8 0] n) 5)).alloc (.cells (madeCells #[.int .u16 0] n) 38)) w.heap.size (copied xs n 0)) := by rw [copied_zero]; exact (Held.made .u8 5 w n).alloc _
  have P2 : Hid (Held .u16 38 ((w.alloc (.cells (madeCells #[.int .u8 0] n) 5)).alloc (.cells (madeCells #[.int .u16 0] n) 38)) (w.heap.size + 1) (copied ys n 0)) := by
    rw [copied_zero]; have := Held.made .u16 38 (w.alloc (.cells (madeCells #[.int .u8 0] n) 5)) n; simp at this; exact this
  have B0 : Hid (Below w.heap.size w ((w.alloc (.cells (madeCells #[.int .u8 0] n) 5)).alloc (.cells (madeCells #[.int .u16 0] n) 38))) := ((Below.refl _ _).alloc (Nat.le_refl _) _).alloc (by simp) _
  clear hx hg
  go_enter Try.func27, Try.ntmps27
  go_wp2
  go_loopw [6] (fun i wr => ∃ k : Nat, k ≤ n ∧ i = .int .i64 k ∧ Hid (Held .u8 5 wr w.heap.size (copied xs n k)) ∧ Hid (Held .u16 38 wr (w.heap.size + 1) (copied ys n k)) ∧ Hid (Below w.heap.size w wr)) (fun i _ => n - (intOf i).toNat)
  case atStart => exact ⟨0, Nat.zero_le _, rfl, P1, P2, B0⟩
  case round =>
    obtain ⟨k, hk, rfl, hP1, hP2, hB⟩ := hrel
    clear hmk hmk2 P1 P2 B0
    by_cases hlt : k < n
    · have lx := copied_len xs n k HX.out hk
      have ly := copied_len ys n k HY.out hk
      have hG2 := HG.out.below hB.out LG
      have cx := hG2.fst k (by rw [HX.out]; exact hlt)
      have cy := hG2.snd k (by rw [HX.out]; exact hlt)
      have c1 := hP1.out.cell k (by rw [lx]; exact hlt)
      have c2 := hP2.out.cell k (by rw [ly]; exact hlt)
      have f1 := hP1.out.free k
      have f2 := hP2.out.free k
      have N1 : Hid (Held .u8 5 ((wr.setCell ⟨w.heap.size, k, none⟩ (.int .u8 (xs.getD k 0))).setCell ⟨w.heap.size + 1, k, none⟩ (.int .u16 (ys.getD k 0))) w.heap.size (copied xs n (k + 1))) := by
        rw [← copied_set xs n k HX.out hlt]; exact (hP1.out.store k _).other (by simp) _
      have N2 : Hid (Held .u16 38 ((wr.setCell ⟨w.heap.size, k, none⟩ (.int .u8 (xs.getD k 0))).setCell ⟨w.heap.size + 1, k, none⟩ (.int .u16 (ys.getD k 0))) (w.heap.size + 1) (copied ys n (k + 1))) := by
        rw [← copied_set ys n k HY.out hlt]; exact (hP2.out.other (by simp) _).store k _
      have BN : Hid (Below w.heap.size w ((wr.setCell ⟨w.heap.size, k, none⟩ (.int .u8 (xs.getD k 0))).setCell ⟨w.heap.size + 1, k, none⟩ (.int .u16 (ys.getD k 0)))) := (hB.out.setCell (Nat.le_refl _) _).setCell (Nat.le_succ _) _
      have hne : g ≠ w.heap.size := by omega
      generalize xs.getD k 0 = x at *
      generalize ys.getD k 0 = y at *
      generalize (copied xs n k).getD k 0 = x' at *
      generalize (copied ys n k).getD k 0 = y' at *
      clear hP1 hP2 hB lx ly hG2
      go_wp2
      go_roundw
      case rel => exact ⟨k + 1, by omega, by go_num, N1, N2, BN⟩
      case measure => simp [intOf]; omega
    · have e : k = n := by omega
      have e1 : copied xs n n = xs := by rw [← HX.out]; exact copied_all xs
      have e2 : copied ys n n = ys := by rw [← HY.out]; exact copied_all ys
      have N1 : Hid (Held .u8 5 wr w.heap.size xs) := by have h := hP1.out; rw [e, e1] at h; exact h
      have N2 : Hid (Held .u16 38 wr (w.heap.size + 1) ys) := by have h := hP2.out; rw [e, e2] at h; exact h
      clear hP1 hP2 e e1 e2
      go_wp2
      go_ret2
      exact ⟨rfl, N1.out, N2.out, hB.out⟩

theorem tailsOut_any (a : Option Addr) (n : Nat) (xs ys : List Int) (w : World) (h : POwn .u8 .u16 52 w a xs ys) (hx : xs.length = n) (hn : n ≤ 1073741824) :
    Calls Try.prog 27 #[.slice a n n] w fun e w' => ∃ a1 a2, e = .returned (.tuple #[.slice a1 n n, .slice a2 n n]) ∧ a1.isNone = a.isNone ∧ a2.isNone = a.isNone ∧ Own .u8 5 w' a1 xs ∧ Own .u16 38 w' a2 ys ∧ Below w.heap.size w w' := by
  rcases h with ⟨rfl, rfl, rfl⟩ | ⟨g, rfl, hg⟩
  · have : n = 0 := hx.symm
    subst this
    refine (tailsOut_nil w).mono fun e w' ⟨he, hw⟩ => ?_
    subst hw
    exact ⟨none, none, he, rfl, rfl, .inl ⟨rfl, rfl⟩, .inl ⟨rfl, rfl⟩, Below.refl _ _⟩
  · refine (tailsOut_some g n xs ys w hx hn hg).mono fun e w' ⟨he, h1, h2, hb⟩ => ?_
    exact ⟨some ⟨w.heap.size, 0, none⟩, some ⟨w.heap.size + 1, 0, none⟩, he, rfl, rfl, .inr ⟨_, rfl, h1⟩, .inr ⟨_, rfl, h2⟩, hb⟩

/-- 'make([]steps, n)'. -/
theorem makesteps (w : World) (n : Nat) (h : n ≤ 1073741824) :
    (Instr.makeSlice 42 (.int .i64 (n : Int)) (.int .i64 (n : Int))).run Try.prog w = .ok (.slice (some ⟨w.heap.size, 0, none⟩) n n) (w.alloc (.cells (madeCells #[.int .u16 0, .int .u16 0] (n * 2)) 54)) := by
  obtain ⟨i, hi, hz, hs, hb⟩ := info_parts Try.info54
  have := run_make (P := Try.prog) w 42 54 i (.agg #[.int .u16 0, .int .u16 0]) Try.underlying42 hi hz .i64 .i64 (n : Int) (n : Int) (by omega) (Int.le_refl _) (by rw [hb]; omega) (by omega)
  simpa [hs, Value.cells] using this

theorem stepsIn_nil (w : World) : Calls Try.prog 25 #[.slice none 0 0, .slice none 0 0] w fun e w' => e = .returned (.slice none 0 0) ∧ w' = w := by
  have q25 : ∀ (w : World) (a : Option Addr) (n c n' c' : Nat), (binOp .eql 32 (.slice a n c) (.slice none n' c')).run Try.prog w = .ok (.bool a.isNone) w := fun w a n c n' c' => Lib.run_eql_slice_nil w _ _ a n c n' c' Try.underlying32
  go_enter Try.func25, Try.ntmps25
  go_wp2
  go_ret
  exact ⟨rfl, rfl⟩

theorem stepsIn_some (ga gb n : Nat) (xs ys : List Int) (w : World) (hx : xs.length = n) (hy : ys.length = n) (hn : n ≤ 1073741824) (hga : Held .u16 38 w ga xs) (hgb : Held .u16 38 w gb ys) :
    Calls Try.prog 25 #[.slice (some ⟨ga, 0, none⟩) n n, .slice (some ⟨gb, 0, none⟩) n n] w fun e w' => e = .returned (.slice (some ⟨w.heap.size, 0, none⟩) n n) ∧ PHeld .u16 .u16 54 w' w.heap.size xs ys ∧ Below w.heap.size w w' := by
  have q25 : ∀ (w : World) (a : Option Addr) (n c n' c' : Nat), (binOp .eql 32 (.slice a n c) (.slice none n' c')).run Try.prog w = .ok (.bool a.isNone) w := fun w a n c n' c' => Lib.run_eql_slice_nil w _ _ a n c n' c' Try.underlying32
  have hmk := makesteps w n hn
  have HX : Hid (xs.length = n) := hx
  have HY : Hid (ys.length = n) := hy
  have HA : Hid (Held .u16 38 w ga xs) := hga
  have HB : Hid (Held .u16 38 w gb ys) := hgb
  have LA := hga.lt
  have LB := hgb.lt
  have P0 : Hid (PHeld .u16 .u16 54 (w.alloc (.cells (madeCells #[.int .u16 0, .int .u16 0] (n * 2)) 54)) w.heap.size (copied xs n 0) (copied ys n 0)) := by rw [copied_zero, copied_zero]; exact PHeld.made .u16 .u16 54 w n
  have B0 : Hid (Below w.heap.size w (w.alloc (.cells (madeCells #[.int .u16 0, .int .u16 0] (n * 2)) 54))) := (Below.refl _ _).alloc (Nat.le_refl _) _
  clear hx hy hga hgb
  go_enter Try.func25, Try.ntmps25
  go_wp2
  go_loopw [6, 7] (fun i _ wr => ∃ k : Nat, k ≤ n ∧ i = .int .i64 k ∧ Hid (PHeld .u16 .u16 54 wr w.heap.size (copied xs n k) (copied ys n k)) ∧ Hid (Below w.heap.size w wr)) (fun i _ _ => n - (intOf i).toNat)
  case atStart => exact ⟨0, Nat.zero_le _, rfl, P0, B0⟩
  case round =>
    obtain ⟨k, hk, rfl, hP, hB⟩ := hrel
    clear hmk P0 B0
    by_cases hlt : k < n
    · have cx := (HA.out.below hB.out LA).cell k (by rw [HX.out]; exact hlt)
      have cy := (HB.out.below hB.out LB).cell k (by rw [HY.out]; exact hlt)
      have lc := copied_len xs n k HX.out hk
      have c1 := hP.out.fst k (by rw [lc]; exact hlt)
      have c2 := hP.out.snd k (by rw [lc]; exact hlt)
      have f1 := hP.out.free (k * 2)
      have f2 := hP.out.free (k * 2 + 1)
      have PN : Hid (PHeld .u16 .u16 54 ((wr.setCell ⟨w.heap.size, k * 2, none⟩ (.int .u16 (xs.getD k 0))).setCell ⟨w.heap.size, k * 2 + 1, none⟩ (.int .u16 (ys.getD k 0))) w.heap.size (copied xs n (k + 1)) (copied ys n (k + 1))) := by
        rw [← copied_set xs n k HX.out hlt, ← copied_set ys n k HY.out hlt]; exact hP.out.store k _ _
      have BN : Hid (Below w.heap.size w ((wr.setCell ⟨w.heap.size, k * 2, none⟩ (.int .u16 (xs.getD k 0))).setCell ⟨w.heap.size, k * 2 + 1, none⟩ (.int .u16 (ys.getD k 0)))) := (hB.out.setCell (Nat.le_refl _) _).setCell (Nat.le_refl _) _
      generalize xs.getD k 0 = x at *
      generalize ys.getD k 0 = y at *
      generalize (copied xs n k).getD k 0 = x' at *
      generalize (copied ys n k).getD k 0 = y' at *
      clear hP hB lc
      go_wp2
      go_roundw
      case rel => exact ⟨k + 1, by omega, by go_num, PN, BN⟩
      case measure => simp [intOf]; omega
    · have e : k = n := by omega
      have PN : Hid (PHeld .u16 .u16 54 wr w.heap.size xs ys) := by
        have h := hP.out
        rw [e] at h
        have e1 : copied xs n n = xs := by rw [← HX.out]; exact copied_all xs
        have e2 : copied ys n n = ys := by rw [← HY.out]; exact copied_all ys
        rw [e1, e2] at h
        exact h
      clear hP e
      go_wp2
      go_ret
      exact ⟨rfl, PN.out, hB.out⟩

theorem stepsIn_any (a b : Option Addr) (n : Nat) (xs ys : List Int) (w : World) (ha : Own .u16 38 w a xs) (hb : Own .u16 38 w b ys) (hab : b.isNone = a.isNone) (hx : xs.length = n) (hy : ys.length = n) (hn : n ≤ 1073741824) :
    Calls Try.prog 25 #[.slice a n n, .slice b n n] w fun e w' => ∃ a', e = .returned (.slice a' n n) ∧ a'.isNone = a.isNone ∧ POwn .u16 .u16 54 w' a' xs ys ∧ Below w.heap.size w w' := by
  rcases ha with ⟨rfl, rfl⟩ | ⟨g, rfl, hg⟩
  · rcases hb with ⟨rfl, rfl⟩ | ⟨h, rfl, _⟩
    · have : n = 0 := hx.symm
      subst this
      refine (stepsIn_nil w).mono fun e w' ⟨he, hw⟩ => ?_
      subst hw
      exact ⟨none, he, rfl, .inl ⟨rfl, rfl, rfl⟩, Below.refl _ _⟩
    · simp at hab
  · rcases hb with ⟨rfl, rfl⟩ | ⟨h, rfl, hh⟩
    · simp at hab
    · refine (stepsIn_some g h n xs ys w hx hy hn hg hh).mono fun e w' ⟨he, hp, hb⟩ => ?_
      exact ⟨some ⟨w.heap.size, 0, none⟩, he, rfl, .inr ⟨_, rfl, hp⟩, hb⟩

theorem stepsOut_nil (w : World) : Calls Try.prog 28 #[.slice none 0 0] w fun e w' => e = .returned (.tuple #[.slice none 0 0, .slice none 0 0]) ∧ w' = w := by
  have q25 : ∀ (w : World) (a : Option Addr) (n c n' c' : Nat), (binOp .eql 42 (.slice a n c) (.slice none n' c')).run Try.prog w = .ok (.bool a.isNone) w := fun w a n c n' c' => Lib.run_eql_slice_nil w _ _ a n c n' c' Try.underlying42
  go_enter Try.func28, Try.ntmps28
  go_wp2
  go_ret2
  exact ⟨rfl, rfl⟩

theorem stepsOut_some (g n : Nat) (xs ys : List Int) (w : World) (hx : xs.length = n) (hn : n ≤ 1073741824) (hg : PHeld .u16 .u16 54 w g xs ys) :
    Calls Try.prog 28 #[.slice (some ⟨g, 0, none⟩) n n] w fun e w' => e = .returned (.tuple #[.slice (some ⟨w.heap.size, 0, none⟩) n n, .slice (some ⟨w.heap.size + 1, 0, none⟩) n n]) ∧ Held .u16 38 w' w.heap.size xs ∧ Held .u16 38 w' (w.heap.size + 1) ys ∧ Below w.heap.size w w' := by
  have q25 : ∀ (w : World) (a : Option Addr) (n c n' c' : Nat), (binOp .eql 42 (.slice a n c) (.slice none n' c')).run Try.prog w = .ok (.bool a.isNone) w := fun w a n c n' c' => Lib.run_eql_slice_nil w _ _ a n c n' c' Try.underlying42
  have hmk := fun w => make16 w n hn
  have hmk2 := fun w => make16 w n hn
  have HX : Hid (xs.length = n) := hx
  have HY : Hid (ys.length = n) := hg.1.trans hx
  have HG : Hid (PHeld .u16 .u16 54 w g xs ys) := hg
  have LG := hg.lt
  have P1 : Hid (Held .u16 38 ((w.alloc (.cells (madeCells #[.int .u16 0] n) 38)).alloc (.cells (madeCells #[.int .u16 0] n) 38)) w.heap.size (copied xs n 0)) := by rw [copied_zero]; exact (Held.made .u16 38 w n).alloc _
  have P2 : Hid (Held .u16 38 ((w.alloc (.cells (madeCells #[.int .u16 0] n) 38)).alloc (.cells (madeCells #[.int .u16 0] n) 38)) (w.heap.size + 1) (copied ys n 0)) := by
    rw [copied_zero]; have := Held.made .u16 38 (w.alloc (.cells (madeCells #[.int .u16 0] n) 38)) n; simp at this; exact this
  have B0 : Hid (Below w.heap.size w ((w.alloc (.cells (madeCells #[.int .u16 0] n) 38)).alloc (.cells (madeCells #[.int .u16 0] n) 38))) := ((Below.refl _ _).alloc (Nat.le_refl _) _).alloc (by simp) _
  clear hx hg
  go_enter Try.func28, Try.ntmps28
  go_wp2
  go_loopw [6] (fun i wr => ∃ k : Nat, k ≤ n ∧ i = .int .i64 k ∧ Hid (Held .u16 38 wr w.heap.size (copied xs n k)) ∧ Hid (Held .u16 38 wr (w.heap.size + 1) (copied ys n k)) ∧ Hid (Below w.heap.size w wr)) (fun i _ => n - (intOf i).toNat)
  case atStart => exact ⟨0, Nat.zero_le _, rfl, P1, P2, B0⟩
  case round =>
    obtain ⟨k, hk, rfl, hP1, hP2, hB⟩ := hrel
    clear hmk hmk2 P1 P2 B0
    by_cases hlt : k < n
    · have lx := copied_len xs n k HX.out hk
      have ly := copied_len ys n k HY.out hk
      have hG2 := HG.out.below hB.out LG
      have cx := hG2.fst k (by rw [HX.out]; exact hlt)
      have cy := hG2.snd k (by rw [HX.out]; exact hlt)
      have c1 := hP1.out.cell k (by rw [lx]; exact hlt)
      have c2 := hP2.out.cell k (by rw [ly]; exact hlt)
      have f1 := hP1.out.free k
      have f2 := hP2.out.free k
      have N1 : Hid (Held .u16 38 ((wr.setCell ⟨w.heap.size, k, none⟩ (.int .u16 (xs.getD k 0))).setCell ⟨w.heap.size + 1, k, none⟩ (.int .u16 (ys.getD k 0))) w.heap.size (copied xs n (k + 1))) := by
        rw [← copied_set xs n k HX.out hlt]; exact (hP1.out.store k _).other (by simp) _
      have N2 : Hid (Held .u16 38 ((wr.setCell ⟨w.heap.size, k, none⟩ (.int .u16 (xs.getD k 0))).setCell ⟨w.heap.size + 1, k, none⟩ (.int .u16 (ys.getD k 0))) (w.heap.size + 1) (copied ys n (k + 1))) := by
        rw [← copied_set ys n k HY.out hlt]; exact (hP2.out.other (by simp) _).store k _
      have BN : Hid (Below w.heap.size w ((wr.setCell ⟨w.heap.size, k, none⟩ (.int .u16 (xs.getD k 0))).setCell ⟨w.heap.size + 1, k, none⟩ (.int .u16 (ys.getD k 0)))) := (hB.out.setCell (Nat.le_refl _) _).setCell (Nat.le_succ _) _
      have hne : g ≠ w.heap.size := by omega
      generalize xs.getD k 0 = x at *
      generalize ys.getD k 0 = y at *
      generalize (copied xs n k).getD k 0 = x' at *
      generalize (copied ys n k).getD k 0 = y' at *
      clear hP1 hP2 hB lx ly hG2
      go_wp2
      go_roundw
      case rel => exact ⟨k + 1, by omega, by go_num, N1, N2, BN⟩
      case measure => simp [intOf]; omega
    · have e : k = n := by omega
      have e1 : copied xs n n = xs := by rw [← HX.out]; exact copied_all xs
      have e2 : copied ys n n = ys := by rw [← HY.out]; exact copied_all ys
      have N1 : Hid (Held .u16 38 wr w.heap.size xs) := by have h := hP1.out; rw [e, e1] at h; exact h
      have N2 : Hid (Held .u16 38 wr (w.heap.size + 1) ys) := by have h := hP2.out; rw [e, e2] at h; exact h
      clear hP1 hP2 e e1 e2
      go_wp2
      go_ret2
      exact ⟨rfl, N1.out, N2.out, hB.out⟩

theorem stepsOut_any (a : Option Addr) (n : Nat) (xs ys : List Int) (w : World) (h : POwn .u16 .u16 54 w a xs ys) (hx : xs.length = n) (hn : n ≤ 1073741824) :
    Calls Try.prog 28 #[.slice a n n] w fun e w' => ∃ a1 a2, e = .returned (.tuple #[.slice a1 n n, .slice a2 n n]) ∧ a1.isNone = a.isNone ∧ a2.isNone = a.isNone ∧ Own .u16 38 w' a1 xs ∧ Own .u16 38 w' a2 ys ∧ Below w.heap.size w w' := by
  rcases h with ⟨rfl, rfl, rfl⟩ | ⟨g, rfl, hg⟩
  · have : n = 0 := hx.symm
    subst this
    refine (stepsOut_nil w).mono fun e w' ⟨he, hw⟩ => ?_
    subst hw
    exact ⟨none, none, he, rfl, rfl, .inl ⟨rfl, rfl⟩, .inl ⟨rfl, rfl⟩, Below.refl _ _⟩
  · refine (stepsOut_some g n xs ys w hx hn hg).mono fun e w' ⟨he, h1, h2, hb⟩ => ?_
    exact ⟨some ⟨w.heap.size, 0, none⟩, some ⟨w.heap.size + 1, 0, none⟩, he, rfl, rfl, .inr ⟨_, rfl, h1⟩, .inr ⟨_, rfl, h2⟩, hb⟩
end Go.Proofs.Qxb6603740a
