/-
  THE WALKS OF zzDnsB1CloneU8 AND zzDnsB1CloneU16: a nil slice stays nil; else a new row of the same numbers.
-/
import Derived.Test.Qxb6603740aBase
import Derived.Test.Qxb6603740aMem
namespace Go.Proofs.Qxb6603740a
open Go.ChangeShapes Go.WideShapes Go.ChangeAt Go.RowKit

theorem Try.info5 : (Try.prog.info? 5).map (fun i => (i.zero, i.size, i.bytes)) = some (some (.int .u8 0), 1, 1) := by kernel_rfl
theorem Try.info38 : (Try.prog.info? 38).map (fun i => (i.zero, i.size, i.bytes)) = some (some (.int .u16 0), 1, 2) := by kernel_rfl

/-- 'make([]uint8, n)'. -/
theorem make8 (w : World) (n : Nat) (h : n ≤ 1073741824) :
    (Instr.makeSlice 25 (.int .i64 (n : Int)) (.int .i64 (n : Int))).run Try.prog w = .ok (.slice (some ⟨w.heap.size, 0, none⟩) n n) (w.alloc (.cells (madeCells #[.int .u8 0] n) 5)) := by
  obtain ⟨i, hi, hz, hs, hb⟩ := info_parts Try.info5
  have := run_make (P := Try.prog) w 25 5 i (.int .u8 0) Try.underlying25 hi hz .i64 .i64 (n : Int) (n : Int) (by omega) (Int.le_refl _) (by rw [hb]; omega) (by omega)
  simpa [hs, Value.cells] using this

theorem clone8_nil (w : World) : Calls Try.prog 13 #[.slice none 0 0] w fun e w' => e = .returned (.slice none 0 0) ∧ w' = w := by
  have q25 : ∀ (w : World) (a : Option Addr) (n c n' c' : Nat), (binOp .eql 25 (.slice a n c) (.slice none n' c')).run Try.prog w = .ok (.bool a.isNone) w := fun w a n c n' c' => Lib.run_eql_slice_nil w _ _ a n c n' c' Try.underlying25
  go_enter Try.func13, Try.ntmps13
  go_wp2
  go_ret
  exact ⟨rfl, rfl⟩

theorem clone8_zero (x : Addr) (c : Nat) (w : World) : Calls Try.prog 13 #[.slice (some x) 0 c] w fun e w' => e = .returned (.slice (some ⟨w.heap.size, 0, none⟩) 0 0) ∧ Held .u8 5 w' w.heap.size [] ∧ Below w.heap.size w w' ∧ w'.heap.size = w.heap.size + 1 := by
  have q25 : ∀ (w : World) (a : Option Addr) (n c n' c' : Nat), (binOp .eql 25 (.slice a n c) (.slice none n' c')).run Try.prog w = .ok (.bool a.isNone) w := fun w a n c n' c' => Lib.run_eql_slice_nil w _ _ a n c n' c' Try.underlying25
  have hmk : (Instr.makeSlice 25 (.int .i64 0) (.int .i64 0)).run Try.prog w = .ok (.slice (some ⟨w.heap.size, 0, none⟩) 0 0) (w.alloc (.cells (madeCells #[.int .u8 0] 0) 5)) := make8 w 0 (by omega)
  have HH : Hid (Held .u8 5 (w.alloc (.cells (madeCells #[.int .u8 0] 0) 5)) w.heap.size []) := Held.made .u8 5 w 0
  go_enter Try.func13, Try.ntmps13
  go_wp2
  refine wp_loop_rounds 1 ?_
  rw [rounds_succ]
  go_wp2
  go_ret
  exact ⟨rfl, HH.out, (Below.refl _ _).alloc (Nat.le_refl _) _, by simp⟩

theorem clone8_pos (b off n c : Nat) (zs : List Int) (w : World) (hz : zs.length = n) (hn : n ≤ 1073741824) (hb : b < w.heap.size)
    (hc : ∀ i, i < n → w.cell? ⟨b, off + i, none⟩ = some (.int .u8 (zs.getD i 0))) :
    Calls Try.prog 13 #[.slice (some ⟨b, off, none⟩) n c] w fun e w' => e = .returned (.slice (some ⟨w.heap.size, 0, none⟩) n n) ∧ Held .u8 5 w' w.heap.size zs ∧ Below w.heap.size w w' ∧ w'.heap.size = w.heap.size + 1 := by
  have q25 : ∀ (w : World) (a : Option Addr) (n c n' c' : Nat), (binOp .eql 25 (.slice a n c) (.slice none n' c')).run Try.prog w = .ok (.bool a.isNone) w := fun w a n c n' c' => Lib.run_eql_slice_nil w _ _ a n c n' c' Try.underlying25
  have hmk := make8 w n hn
  have HH : Hid (Held .u8 5 (w.alloc (.cells (madeCells #[.int .u8 0] n) 5)) w.heap.size (copied zs n 0)) := by rw [copied_zero]; exact Held.made .u8 5 w n
  have HB : Hid (Below w.heap.size w (w.alloc (.cells (madeCells #[.int .u8 0] n) 5))) := (Below.refl _ _).alloc (Nat.le_refl _) _
  have HC : Hid (∀ i, i < n → w.cell? ⟨b, off + i, none⟩ = some (.int .u8 (zs.getD i 0))) := hc
  have HZ : Hid (zs.length = n) := hz
  clear hc hz
  go_enter Try.func13, Try.ntmps13
  go_wp2
  go_loopw [4] (fun i wr => ∃ k : Nat, k ≤ n ∧ i = .int .i64 k ∧ Held .u8 5 wr w.heap.size (copied zs n k) ∧ Below w.heap.size w wr ∧ wr.heap.size = w.heap.size + 1) (fun i _ => n - (intOf i).toNat)
  case atStart => exact ⟨0, Nat.zero_le _, rfl, HH.out, HB.out, by simp⟩
  case round =>
    obtain ⟨k, hk, rfl, hheld, hbel, hsz⟩ := hrel
    clear hmk
    by_cases hlt : k < n
    · have hcx : wr.cell? ⟨b, off + k, none⟩ = some (.int .u8 (zs.getD k 0)) := (hbel.cell (by exact hb)).trans (HC.out k hlt)
      have hco := hheld.cell k (by rw [copied_len zs n k HZ.out hk]; exact hlt)
      have hfr := hheld.free k
      have HN : Hid (Held .u8 5 (wr.setCell ⟨w.heap.size, k, none⟩ (.int .u8 (zs.getD k 0))) w.heap.size (copied zs n (k + 1))) := by rw [← copied_set zs n k HZ.out hlt]; exact hheld.store k _
      have HB2 : Hid (Below w.heap.size w (wr.setCell ⟨w.heap.size, k, none⟩ (.int .u8 (zs.getD k 0)))) := hbel.setCell (Nat.le_refl _) _
      generalize zs.getD k 0 = z at *
      clear hheld hbel
      go_wp2
      go_roundw
      case rel => exact ⟨k + 1, by omega, by go_num, HN.out, HB2.out, by simp; exact hsz⟩
      case measure => simp [intOf]; omega
    · have e : k = n := by omega
      have HN : Hid (Held .u8 5 wr w.heap.size zs) := by rw [e, ← HZ.out, copied_all] at hheld; exact hheld
      have HB2 : Hid (Below w.heap.size w wr) := hbel
      clear hheld hbel e
      go_wp2
      go_ret
      exact ⟨rfl, HN.out, HB2.out, hsz⟩

theorem clone8_any (a : Option Addr) (n c : Nat) (zs : List Int) (w : World) (h : Came .u8 w a n zs) (h0 : a = none → c = 0) (hn : n ≤ 1073741824) :
    Calls Try.prog 13 #[.slice a n c] w fun e w' => ∃ a', e = .returned (.slice a' n n) ∧ a'.isNone = a.isNone ∧ Own .u8 5 w' a' zs ∧ Below w.heap.size w w' := by
  obtain ⟨hz, h⟩ := h
  rcases h with ⟨rfl, rfl⟩ | ⟨x, rfl, rfl⟩ | ⟨b, off, rfl, hb, hc⟩
  · have := h0 rfl
    subst this
    refine (clone8_nil w).mono fun e w' ⟨he, hw⟩ => ?_
    subst hw
    exact ⟨none, he, rfl, .inl ⟨rfl, List.eq_nil_of_length_eq_zero hz⟩, Below.refl _ _⟩
  · refine (clone8_zero x c w).mono fun e w' ⟨he, hh, hb, _⟩ => ?_
    rw [List.eq_nil_of_length_eq_zero hz]
    exact ⟨some ⟨w.heap.size, 0, none⟩, he, rfl, .inr ⟨_, rfl, hh⟩, hb⟩
  · refine (clone8_pos b off n c zs w hz hn hb hc).mono fun e w' ⟨he, hh, hb, _⟩ => ?_
    exact ⟨some ⟨w.heap.size, 0, none⟩, he, rfl, .inr ⟨_, rfl, hh⟩, hb⟩

/-- 'make([]uint16, n)'. -/
theorem make16 (w : World) (n : Nat) (h : n ≤ 1073741824) :
    (Instr.makeSlice 32 (.int .i64 (n : Int)) (.int .i64 (n : Int))).run Try.prog w = .ok (.slice (some ⟨w.heap.size, 0, none⟩) n n) (w.alloc (.cells (madeCells #[.int .u16 0] n) 38)) := by
  obtain ⟨i, hi, hz, hs, hb⟩ := info_parts Try.info38
  have := run_make (P := Try.prog) w 32 38 i (.int .u16 0) Try.underlying32 hi hz .i64 .i64 (n : Int) (n : Int) (by omega) (Int.le_refl _) (by rw [hb]; omega) (by omega)
  simpa [hs, Value.cells] using this

theorem clone16_nil (w : World) : Calls Try.prog 19 #[.slice none 0 0] w fun e w' => e = .returned (.slice none 0 0) ∧ w' = w := by
  have q25 : ∀ (w : World) (a : Option Addr) (n c n' c' : Nat), (binOp .eql 32 (.slice a n c) (.slice none n' c')).run Try.prog w = .ok (.bool a.isNone) w := fun w a n c n' c' => Lib.run_eql_slice_nil w _ _ a n c n' c' Try.underlying32
  go_enter Try.func19, Try.ntmps19
  go_wp2
  go_ret
  exact ⟨rfl, rfl⟩

theorem clone16_zero (x : Addr) (c : Nat) (w : World) : Calls Try.prog 19 #[.slice (some x) 0 c] w fun e w' => e = .returned (.slice (some ⟨w.heap.size, 0, none⟩) 0 0) ∧ Held .u16 38 w' w.heap.size [] ∧ Below w.heap.size w w' ∧ w'.heap.size = w.heap.size + 1 := by
  have q25 : ∀ (w : World) (a : Option Addr) (n c n' c' : Nat), (binOp .eql 32 (.slice a n c) (.slice none n' c')).run Try.prog w = .ok (.bool a.isNone) w := fun w a n c n' c' => Lib.run_eql_slice_nil w _ _ a n c n' c' Try.underlying32
  have hmk : (Instr.makeSlice 32 (.int .i64 0) (.int .i64 0)).run Try.prog w = .ok (.slice (some ⟨w.heap.size, 0, none⟩) 0 0) (w.alloc (.cells (madeCells #[.int .u16 0] 0) 38)) := make16 w 0 (by omega)
  have HH : Hid (Held .u16 38 (w.alloc (.cells (madeCells #[.int .u16 0] 0) 38)) w.heap.size []) := Held.made .u16 38 w 0
  go_enter Try.func19, Try.ntmps19
  go_wp2
  refine wp_loop_rounds 1 ?_
  rw [rounds_succ]
  go_wp2
  go_ret
  exact ⟨rfl, HH.out, (Below.refl _ _).alloc (Nat.le_refl _) _, by simp⟩

theorem clone16_pos (b off n c : Nat) (zs : List Int) (w : World) (hz : zs.length = n) (hn : n ≤ 1073741824) (hb : b < w.heap.size)
    (hc : ∀ i, i < n → w.cell? ⟨b, off + i, none⟩ = some (.int .u16 (zs.getD i 0))) :
    Calls Try.prog 19 #[.slice (some ⟨b, off, none⟩) n c] w fun e w' => e = .returned (.slice (some ⟨w.heap.size, 0, none⟩) n n) ∧ Held .u16 38 w' w.heap.size zs ∧ Below w.heap.size w w' ∧ w'.heap.size = w.heap.size + 1 := by
  have q25 : ∀ (w : World) (a : Option Addr) (n c n' c' : Nat), (binOp .eql 32 (.slice a n c) (.slice none n' c')).run Try.prog w = .ok (.bool a.isNone) w := fun w a n c n' c' => Lib.run_eql_slice_nil w _ _ a n c n' c' Try.underlying32
  have hmk := make16 w n hn
  have HH : Hid (Held .u16 38 (w.alloc (.cells (madeCells #[.int .u16 0] n) 38)) w.heap.size (copied zs n 0)) := by rw [copied_zero]; exact Held.made .u16 38 w n
  have HB : Hid (Below w.heap.size w (w.alloc (.cells (madeCells #[.int .u16 0] n) 38))) := (Below.refl _ _).alloc (Nat.le_refl _) _
  have HC : Hid (∀ i, i < n → w.cell? ⟨b, off + i, none⟩ = some (.int .u16 (zs.getD i 0))) := hc
  have HZ : Hid (zs.length = n) := hz
  clear hc hz
  go_enter Try.func19, Try.ntmps19
  go_wp2
  go_loopw [4] (fun i wr => ∃ k : Nat, k ≤ n ∧ i = .int .i64 k ∧ Held .u16 38 wr w.heap.size (copied zs n k) ∧ Below w.heap.size w wr ∧ wr.heap.size = w.heap.size + 1) (fun i _ => n - (intOf i).toNat)
  case atStart => exact ⟨0, Nat.zero_le _, rfl, HH.out, HB.out, by simp⟩
  case round =>
    obtain ⟨k, hk, rfl, hheld, hbel, hsz⟩ := hrel
    clear hmk
    by_cases hlt : k < n
    · have hcx : wr.cell? ⟨b, off + k, none⟩ = some (.int .u16 (zs.getD k 0)) := (hbel.cell (by exact hb)).trans (HC.out k hlt)
      have hco := hheld.cell k (by rw [copied_len zs n k HZ.out hk]; exact hlt)
      have hfr := hheld.free k
      have HN : Hid (Held .u16 38 (wr.setCell ⟨w.heap.size, k, none⟩ (.int .u16 (zs.getD k 0))) w.heap.size (copied zs n (k + 1))) := by rw [← copied_set zs n k HZ.out hlt]; exact hheld.store k _
      have HB2 : Hid (Below w.heap.size w (wr.setCell ⟨w.heap.size, k, none⟩ (.int .u16 (zs.getD k 0)))) := hbel.setCell (Nat.le_refl _) _
      generalize zs.getD k 0 = z at *
      clear hheld hbel
      go_wp2
      go_roundw
      case rel => exact ⟨k + 1, by omega, by go_num, HN.out, HB2.out, by simp; exact hsz⟩
      case measure => simp [intOf]; omega
    · have e : k = n := by omega
      have HN : Hid (Held .u16 38 wr w.heap.size zs) := by rw [e, ← HZ.out, copied_all] at hheld; exact hheld
      have HB2 : Hid (Below w.heap.size w wr) := hbel
      clear hheld hbel e
      go_wp2
      go_ret
      exact ⟨rfl, HN.out, HB2.out, hsz⟩

theorem clone16_any (a : Option Addr) (n c : Nat) (zs : List Int) (w : World) (h : Came .u16 w a n zs) (h0 : a = none → c = 0) (hn : n ≤ 1073741824) :
    Calls Try.prog 19 #[.slice a n c] w fun e w' => ∃ a', e = .returned (.slice a' n n) ∧ a'.isNone = a.isNone ∧ Own .u16 38 w' a' zs ∧ Below w.heap.size w w' := by
  obtain ⟨hz, h⟩ := h
  rcases h with ⟨rfl, rfl⟩ | ⟨x, rfl, rfl⟩ | ⟨b, off, rfl, hb, hc⟩
  · have := h0 rfl
    subst this
    refine (clone16_nil w).mono fun e w' ⟨he, hw⟩ => ?_
    subst hw
    exact ⟨none, he, rfl, .inl ⟨rfl, List.eq_nil_of_length_eq_zero hz⟩, Below.refl _ _⟩
  · refine (clone16_zero x c w).mono fun e w' ⟨he, hh, hb, _⟩ => ?_
    rw [List.eq_nil_of_length_eq_zero hz]
    exact ⟨some ⟨w.heap.size, 0, none⟩, he, rfl, .inr ⟨_, rfl, hh⟩, hb⟩
  · refine (clone16_pos b off n c zs w hz hn hb hc).mono fun e w' ⟨he, hh, hb, _⟩ => ?_
    exact ⟨some ⟨w.heap.size, 0, none⟩, he, rfl, .inr ⟨_, rfl, hh⟩, hb⟩
end Go.Proofs.Qxb6603740a
