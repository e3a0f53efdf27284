/-
  THE WALKS OF zzDnsB1SameU8, zzDnsB1SameU16 (on two slices of the same numbers) AND OF (*reader).remembers.
-/
import Derived.Test.Qxb6603740aInOut
import Derived.Deep.QuietTactic
import Derived.BigQuiet
namespace Go.Proofs.Qxb6603740a
open Go.ChangeShapes Go.WideShapes Go.ChangeAt Go.RowKit

theorem rem_held (R n : Nat) (t : Addr) (w : World) (h3 : w.cell? ⟨R, 3, none⟩ = some (.slice (some t) n n)) :
    Calls Try.prog 26 #[.pointer (some ⟨R, 0, none⟩)] w fun e w' => e = .returned (.bool true) ∧ ∃ q, w' = w.drewN q := by
  have q40 : ∀ (w : World) (a : Option Addr) (n c n' c' : Nat), (binOp .eql 40 (.slice a n c) (.slice none n' c')).run Try.prog w = .ok (.bool a.isNone) w := fun w a n c n' c' => Lib.run_eql_slice_nil w _ _ a n c n' c' Try.underlying40
  have q40n : ∀ (w : World) (a : Option Addr) (n c n' c' : Nat), (binOp .neq 40 (.slice a n c) (.slice none n' c')).run Try.prog w = .ok (.bool (!a.isNone)) w := fun w a n c n' c' => run_neq_slice_nil_any w _ _ a n c n' c' Try.underlying40
  go_enter Try.func26, Try.ntmps26
  go_wp2
  go_quiet (fail)
  go_wp2
  go_ret
  exact ⟨rfl, _, rfl⟩

theorem rem_no (R nm : Nat) (am : Option Addr) (r : Int) (w : World) (h0 : w.cell? ⟨R, 0, none⟩ = some (.slice am nm nm)) (h2 : w.cell? ⟨R, 2, none⟩ = some (.int .i64 r)) (h3 : w.cell? ⟨R, 3, none⟩ = some (.slice none 0 0)) (hr : ¬ (nm : Int) < r) :
    Calls Try.prog 26 #[.pointer (some ⟨R, 0, none⟩)] w fun e w' => e = .returned (.bool false) ∧ ∃ q, w' = w.drewN q := by
  have q40 : ∀ (w : World) (a : Option Addr) (n c n' c' : Nat), (binOp .eql 40 (.slice a n c) (.slice none n' c')).run Try.prog w = .ok (.bool a.isNone) w := fun w a n c n' c' => Lib.run_eql_slice_nil w _ _ a n c n' c' Try.underlying40
  have q40n : ∀ (w : World) (a : Option Addr) (n c n' c' : Nat), (binOp .neq 40 (.slice a n c) (.slice none n' c')).run Try.prog w = .ok (.bool (!a.isNone)) w := fun w a n c n' c' => run_neq_slice_nil_any w _ _ a n c n' c' Try.underlying40
  have hd : decide ((nm : Int) < r) = false := by simpa using hr
  go_enter Try.func26, Try.ntmps26
  go_wp2
  go_quiet (fail)
  go_wp2
  go_ret
  exact ⟨rfl, _, rfl⟩

theorem rem_small (R nm m : Nat) (am : Option Addr) (r : Int) (w : World) (hs : (nm : Int) ≤ 16639) (hR : R < w.heap.size) (h0 : w.cell? ⟨R, 0, none⟩ = some (.slice am nm nm)) (h2 : w.cell? ⟨R, 2, none⟩ = some (.int .i64 r)) (h3 : w.cell? ⟨R, 3, none⟩ = some (.slice none 0 0)) (hf : w.frozen? ⟨R, 3, none⟩ = false) (hr : (nm : Int) < r)
    (hmk : ∀ w, (Instr.makeSlice 40 (.int .i64 (nm : Int)) (.int .i64 (nm : Int))).run Try.prog w = .ok (.slice (some ⟨w.heap.size, 0, none⟩) m m) (w.alloc (.cells (madeCells #[.int .u8 0, .int .u16 0] (m * 2)) 52))) :
    Calls Try.prog 26 #[.pointer (some ⟨R, 0, none⟩)] w fun e w' => e = .returned (.bool true) ∧ ∃ q, w' = ((w.drewN q).alloc (.cells (madeCells #[.int .u8 0, .int .u16 0] (m * 2)) 52)).setCell ⟨R, 3, none⟩ (.slice (some ⟨w.heap.size, 0, none⟩) m m) := by
  have q40 : ∀ (w : World) (a : Option Addr) (n c n' c' : Nat), (binOp .eql 40 (.slice a n c) (.slice none n' c')).run Try.prog w = .ok (.bool a.isNone) w := fun w a n c n' c' => Lib.run_eql_slice_nil w _ _ a n c n' c' Try.underlying40
  have q40n : ∀ (w : World) (a : Option Addr) (n c n' c' : Nat), (binOp .neq 40 (.slice a n c) (.slice none n' c')).run Try.prog w = .ok (.bool (!a.isNone)) w := fun w a n c n' c' => run_neq_slice_nil_any w _ _ a n c n' c' Try.underlying40
  have hd : decide ((nm : Int) < r) = true := by simpa using hr
  have c3 : ∀ q, ((w.drewN q).alloc (.cells (madeCells #[.int .u8 0, .int .u16 0] (m * 2)) 52)).cell? ⟨R, 3, none⟩ = some (.slice none 0 0) := fun q => (World.cell?_of_block (w := w) (Below.heap_alloc (w.drewN q) _ R hR)).trans h3
  have f3 : ∀ q, ((w.drewN q).alloc (.cells (madeCells #[.int .u8 0, .int .u16 0] (m * 2)) 52)).frozen? ⟨R, 3, none⟩ = false := fun q => (World.frozen?_of_block (w := w) (Below.heap_alloc (w.drewN q) _ R hR)).trans hf
  go_enter Try.func26, Try.ntmps26
  go_wp2
  go_quiet (fail)
  go_wp2
  go_ret
  exact ⟨rfl, _, rfl⟩

theorem rem_big (R nm m : Nat) (am : Option Addr) (r : Int) (w : World) (hs : (16639 : Int) < nm) (hR : R < w.heap.size) (h0 : w.cell? ⟨R, 0, none⟩ = some (.slice am nm nm)) (h2 : w.cell? ⟨R, 2, none⟩ = some (.int .i64 r)) (h3 : w.cell? ⟨R, 3, none⟩ = some (.slice none 0 0)) (hf : w.frozen? ⟨R, 3, none⟩ = false) (hr : (nm : Int) < r)
    (hmk : ∀ w, (Instr.makeSlice 40 (.int .i64 16639) (.int .i64 16639)).run Try.prog w = .ok (.slice (some ⟨w.heap.size, 0, none⟩) m m) (w.alloc (.cells (madeCells #[.int .u8 0, .int .u16 0] (m * 2)) 52))) :
    Calls Try.prog 26 #[.pointer (some ⟨R, 0, none⟩)] w fun e w' => e = .returned (.bool true) ∧ ∃ q, w' = ((w.drewN q).alloc (.cells (madeCells #[.int .u8 0, .int .u16 0] (m * 2)) 52)).setCell ⟨R, 3, none⟩ (.slice (some ⟨w.heap.size, 0, none⟩) m m) := by
  have q40 : ∀ (w : World) (a : Option Addr) (n c n' c' : Nat), (binOp .eql 40 (.slice a n c) (.slice none n' c')).run Try.prog w = .ok (.bool a.isNone) w := fun w a n c n' c' => Lib.run_eql_slice_nil w _ _ a n c n' c' Try.underlying40
  have q40n : ∀ (w : World) (a : Option Addr) (n c n' c' : Nat), (binOp .neq 40 (.slice a n c) (.slice none n' c')).run Try.prog w = .ok (.bool (!a.isNone)) w := fun w a n c n' c' => run_neq_slice_nil_any w _ _ a n c n' c' Try.underlying40
  have hd : decide ((nm : Int) < r) = true := by simpa using hr
  have c3 : ∀ q, ((w.drewN q).alloc (.cells (madeCells #[.int .u8 0, .int .u16 0] (m * 2)) 52)).cell? ⟨R, 3, none⟩ = some (.slice none 0 0) := fun q => (World.cell?_of_block (w := w) (Below.heap_alloc (w.drewN q) _ R hR)).trans h3
  have f3 : ∀ q, ((w.drewN q).alloc (.cells (madeCells #[.int .u8 0, .int .u16 0] (m * 2)) 52)).frozen? ⟨R, 3, none⟩ = false := fun q => (World.frozen?_of_block (w := w) (Below.heap_alloc (w.drewN q) _ R hR)).trans hf
  go_enter Try.func26, Try.ntmps26
  go_wp2
  go_quiet (fail)
  go_wp2
  go_ret
  exact ⟨rfl, _, rfl⟩


theorem same8_nil (w : World) : Calls Try.prog 21 #[.slice none 0 0, .slice none 0 0] w fun e w' => e = .returned (.bool true) ∧ ∃ q, w' = w.drewN q := by
  have q25 : ∀ (w : World) (a : Option Addr) (n c n' c' : Nat), (binOp .eql 25 (.slice a n c) (.slice none n' c')).run Try.prog w = .ok (.bool a.isNone) w := fun w a n c n' c' => Lib.run_eql_slice_nil w _ _ a n c n' c' Try.underlying25
  go_enter Try.func21, Try.ntmps21
  go_wp2
  refine wp_loop_rounds 1 ?_
  rw [rounds_succ]
  go_wp2
  go_ret
  exact ⟨rfl, 0, rfl⟩

theorem same8_some (g h n : Nat) (xs : List Int) (hn : n ≤ 1073741824) (hx : xs.length = n) (w : World) (hg : Held .u8 5 w g xs) (hh : Held .u8 5 w h xs) :
    Calls Try.prog 21 #[.slice (some ⟨g, 0, none⟩) n n, .slice (some ⟨h, 0, none⟩) n n] w fun e w' => e = .returned (.bool true) ∧ ∃ q, w' = w.drewN q := by
  have q25 : ∀ (w : World) (a : Option Addr) (n c n' c' : Nat), (binOp .eql 25 (.slice a n c) (.slice none n' c')).run Try.prog w = .ok (.bool a.isNone) w := fun w a n c n' c' => Lib.run_eql_slice_nil w _ _ a n c n' c' Try.underlying25
  have HX : Hid (xs.length = n) := hx
  have HG : Hid (Held .u8 5 w g xs) := hg
  have HH : Hid (Held .u8 5 w h xs) := hh
  clear hx hg hh
  go_enter Try.func21, Try.ntmps21
  go_wp2
  go_loopw [5] (fun i wr => ∃ k q : Nat, k ≤ n ∧ i = .int .i64 k ∧ wr = w.drewN q) (fun i _ => n - (intOf i).toNat)
  case atStart => exact ⟨0, 0, Nat.zero_le _, rfl, rfl⟩
  case round =>
    obtain ⟨k, q, hk, rfl, hw⟩ := hrel
    have HW : Hid (wr = w.drewN q) := hw
    have HG2 : Hid (Held .u8 5 wr g xs) := by rw [hw]; exact HG.out
    have HH2 : Hid (Held .u8 5 wr h xs) := by rw [hw]; exact HH.out
    clear hw
    by_cases hlt : k < n
    · have cx := HG2.out.cell k (by rw [HX.out]; exact hlt)
      have cy := HH2.out.cell k (by rw [HX.out]; exact hlt)
      have hltI : (k : Int) < (n : Int) := by omega
      generalize xs.getD k 0 = x at *
      have hl' : (x != x) = false := by simp
      go_wp2
      go_quiet (fail)
      go_wp2
      go_roundw
      case rel => exact ⟨k + 1, q + nq, by omega, by go_num, by rw [HW.out]; simp⟩
      case measure => simp [intOf]; omega
    · go_wp2
      go_ret
      exact ⟨rfl, q, HW.out⟩

theorem same8_any (a b : Option Addr) (n : Nat) (xs : List Int) (w : World) (ha : Own .u8 5 w a xs) (hb : Own .u8 5 w b xs) (hab : b.isNone = a.isNone) (hx : xs.length = n) (hn : n ≤ 1073741824) :
    Calls Try.prog 21 #[.slice a n n, .slice b n n] w fun e w' => e = .returned (.bool true) ∧ ∃ q, w' = w.drewN q := by
  rcases ha with ⟨rfl, rfl⟩ | ⟨g, rfl, hg⟩
  · rcases hb with ⟨rfl, _⟩ | ⟨h, rfl, _⟩
    · have : n = 0 := hx.symm
      subst this
      exact same8_nil w
    · simp at hab
  · rcases hb with ⟨rfl, _⟩ | ⟨h, rfl, hh⟩
    · simp at hab
    · exact same8_some g h n xs hn hx w hg hh

theorem same16_nil (w : World) : Calls Try.prog 22 #[.slice none 0 0, .slice none 0 0] w fun e w' => e = .returned (.bool true) ∧ ∃ q, w' = w.drewN q := by
  have q25 : ∀ (w : World) (a : Option Addr) (n c n' c' : Nat), (binOp .eql 32 (.slice a n c) (.slice none n' c')).run Try.prog w = .ok (.bool a.isNone) w := fun w a n c n' c' => Lib.run_eql_slice_nil w _ _ a n c n' c' Try.underlying32
  go_enter Try.func22, Try.ntmps22
  go_wp2
  refine wp_loop_rounds 1 ?_
  rw [rounds_succ]
  go_wp2
  go_ret
  exact ⟨rfl, 0, rfl⟩

theorem same16_some (g h n : Nat) (xs : List Int) (hn : n ≤ 1073741824) (hx : xs.length = n) (w : World) (hg : Held .u16 38 w g xs) (hh : Held .u16 38 w h xs) :
    Calls Try.prog 22 #[.slice (some ⟨g, 0, none⟩) n n, .slice (some ⟨h, 0, none⟩) n n] w fun e w' => e = .returned (.bool true) ∧ ∃ q, w' = w.drewN q := by
  have q25 : ∀ (w : World) (a : Option Addr) (n c n' c' : Nat), (binOp .eql 32 (.slice a n c) (.slice none n' c')).run Try.prog w = .ok (.bool a.isNone) w := fun w a n c n' c' => Lib.run_eql_slice_nil w _ _ a n c n' c' Try.underlying32
  have HX : Hid (xs.length = n) := hx
  have HG : Hid (Held .u16 38 w g xs) := hg
  have HH : Hid (Held .u16 38 w h xs) := hh
  clear hx hg hh
  go_enter Try.func22, Try.ntmps22
  go_wp2
  go_loopw [5] (fun i wr => ∃ k q : Nat, k ≤ n ∧ i = .int .i64 k ∧ wr = w.drewN q) (fun i _ => n - (intOf i).toNat)
  case atStart => exact ⟨0, 0, Nat.zero_le _, rfl, rfl⟩
  case round =>
    obtain ⟨k, q, hk, rfl, hw⟩ := hrel
    have HW : Hid (wr = w.drewN q) := hw
    have HG2 : Hid (Held .u16 38 wr g xs) := by rw [hw]; exact HG.out
    have HH2 : Hid (Held .u16 38 wr h xs) := by rw [hw]; exact HH.out
    clear hw
    by_cases hlt : k < n
    · have cx := HG2.out.cell k (by rw [HX.out]; exact hlt)
      have cy := HH2.out.cell k (by rw [HX.out]; exact hlt)
      have hltI : (k : Int) < (n : Int) := by omega
      generalize xs.getD k 0 = x at *
      have hl' : (x != x) = false := by simp
      go_wp2
      go_quiet (fail)
      go_wp2
      go_roundw
      case rel => exact ⟨k + 1, q + nq, by omega, by go_num, by rw [HW.out]; simp⟩
      case measure => simp [intOf]; omega
    · go_wp2
      go_ret
      exact ⟨rfl, q, HW.out⟩

theorem same16_any (a b : Option Addr) (n : Nat) (xs : List Int) (w : World) (ha : Own .u16 38 w a xs) (hb : Own .u16 38 w b xs) (hab : b.isNone = a.isNone) (hx : xs.length = n) (hn : n ≤ 1073741824) :
    Calls Try.prog 22 #[.slice a n n, .slice b n n] w fun e w' => e = .returned (.bool true) ∧ ∃ q, w' = w.drewN q := by
  rcases ha with ⟨rfl, rfl⟩ | ⟨g, rfl, hg⟩
  · rcases hb with ⟨rfl, _⟩ | ⟨h, rfl, _⟩
    · have : n = 0 := hx.symm
      subst this
      exact same16_nil w
    · simp at hab
  · rcases hb with ⟨rfl, _⟩ | ⟨h, rfl, hh⟩
    · simp at hab
    · exact same16_some g h n xs hn hx w hg hh
end Go.Proofs.Qxb6603740a
