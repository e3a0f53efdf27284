/-
  THE WALK OF FnNameEqualCaseFlip.
-/
import Derived.Test.Qxb6603740aFlipMem
namespace Go.Proofs.Qxb6603740a
open Go.ChangeShapes Go.WideShapes Go.ChangeAt Go.RowKit

theorem make8_succ (n : Nat) (h : n ≤ 524288) (w : World) :
    (Instr.makeSlice 25 (.int .i64 ((n : Int) + 1)) (.int .i64 ((n : Int) + 1))).run Try.prog w = .ok (.slice (some ⟨w.heap.size, 0, none⟩) (n + 1) (n + 1)) (w.alloc (.cells (madeCells #[.int .u8 0] (n + 1)) 5)) := by
  have := make8 w (n + 1) (by omega)
  simpa using this

set_option maxHeartbeats 1600000 in
theorem flip_any (a b : Option Addr) (n0 c0 n1 c1 : Nat) (x : Int) (xs mask : List Int) (w : World)
    (ha : Came .u8 w a n0 xs) (hb : Came .u8 w b n1 mask) (ka : a = none → c0 = 0) (kb : b = none → c1 = 0)
    (ox : Octets xs) (oy : Octets mask) :
    Calls Try.prog 8 #[.slice a n0 c0, .slice b n1 c1, .int .u8 x] w fun e w' => e = .returned (.bool true) ∧ Below w.heap.size w w' := by
  have HA : Hid (Came .u8 w a n0 xs) := ha
  have HB : Hid (Came .u8 w b n1 mask) := hb
  have KA : Hid (a = none → c0 = 0) := ka
  have KB : Hid (b = none → c1 = 0) := kb
  have OX : Hid (Octets xs) := ox
  have OY : Hid (Octets mask) := oy
  clear ha hb ka kb ox oy
  have q25 : ∀ (w : World) (a : Option Addr) (n c n' c' : Nat), (binOp .neq 25 (.slice a n c) (.slice none n' c')).run Try.prog w = .ok (.bool (!a.isNone)) w := fun w a n c n' c' => run_neq_slice_nil_any w _ _ a n c n' c' Try.underlying25
  go_enter Try.func8, Try.ntmps8
  go_wp2_with fail
  refine (bytes16_any a b n0 c0 n1 c1 x _).mono ?_
  rintro e w0 ⟨⟨t, rfl⟩, rfl⟩
  cases t
  · go_wp2
    go_ret
    exact ⟨rfl, Below.refl _ _⟩
  go_wp2_with fail
  all_goals try (go_ret; exact ⟨rfl, Below.refl _ _⟩)
  refine (clone8_any a n0 c0 xs _ HA.out KA.out (by omega)).mono ?_
  rintro e w1 ⟨a', rfl, -, hOa, hB1⟩
  have HOA : Hid (Own .u8 5 w1 a' xs) := hOa
  have HB1 : Hid (Below w0.heap.size w0 w1) := hB1
  clear hOa hB1
  go_wp2_with fail
  refine (clone8_any b n1 c1 mask _ (HB.out.below HB1.out) KB.out (by omega)).mono ?_
  rintro e w2 ⟨b', rfl, -, hOb, hB2⟩
  have HOA2 : Hid (Own .u8 5 w2 a' xs) := HOA.out.below hB2
  have HOB : Hid (Own .u8 5 w2 b' mask) := hOb
  have HB2 : Hid (Below w0.heap.size w0 w2) := HB1.out.trans (hB2.mono HB1.out.size)
  clear hOb hB2 HOA HB1
  have LX : Hid (xs.length = n0) := HA.out.1
  have LY : Hid (mask.length = n1) := HB.out.1
  have bn0 : n0 ≤ 524288 := by omega
  have bn1 : n1 ≤ 524288 := by omega
  clear HA HB KA KB
  rcases HOA2.out with ⟨rfl, e0⟩ | ⟨g, rfl, hg⟩
  · have hn : n0 = 0 := by rw [← LX.out, e0]; rfl
    subst hn
    subst e0
    have hmk : ∀ w, (Instr.makeSlice 25 (.int .i64 1) (.int .i64 1)).run Try.prog w = .ok (.slice (some ⟨w.heap.size, 0, none⟩) 1 1) (w.alloc (.cells (madeCells #[.int .u8 0] 1) 5)) := fun w => make8_succ 0 (by omega) w
    go_wp2_with fail
    refine (eq_any none none 0 0 [] [] _ (.inl ⟨rfl, rfl⟩) (.inl ⟨rfl, rfl⟩) rfl rfl (by omega) (by omega) OX.out OX.out).mono ?_
    rw [nameEq_refl]
    rintro e w4 ⟨rfl, q1, rfl⟩
    go_wp2_with fail
    refine (eq_any none none 0 0 [] [] _ (.inl ⟨rfl, rfl⟩) (.inl ⟨rfl, rfl⟩) rfl rfl (by omega) (by omega) OX.out OX.out).mono ?_
    rw [nameEq_refl]
    rintro e w4 ⟨rfl, q2, rfl⟩
    go_wp2_with fail
    have R0 : Hid (Rel2 w0 ((w2.drewN (q1 + q2)).alloc (.cells (madeCells #[.int .u8 0] 1) 5)) none w2.heap.size [] 0) := rel2_start (w2 := w2.drewN (q1 + q2)) (.inl ⟨rfl, rfl⟩) (below_drewN HB2.out _)
    refine wp_loop_rounds 1 ?_
    rw [rounds_succ]
    generalize ((w2.drewN (q1 + q2)).alloc (.cells (madeCells #[.int .u8 0] 1) 5)) = wr at *
    obtain ⟨v, cl⟩ := rel2_l R0.out (k := 0) (by omega)
    have fl := rel2_f R0.out (k := 0)
    go_wp2_with fail
    refine (eq_diff none (some ⟨w2.heap.size, 0, none⟩) 0 0 1 1 (by omega) (by omega) (by omega) _).mono ?_
    rintro e w4 ⟨rfl, rfl⟩
    go_wp2_with fail
    refine (eq_diff (some ⟨w2.heap.size, 0, none⟩) none 1 1 0 0 (by omega) (by omega) (by omega) _).mono ?_
    rintro e w4 ⟨rfl, rfl⟩
    go_wp2
    go_ret
    exact ⟨rfl, rel2_below (rel2_next R0.out 0 x)⟩
  · have HG : Hid (Held .u8 5 w2 g xs) := hg
    clear hg
    have hmk := fun w => make8 w n0 (by omega)
    have R0 : Hid (Rel1 w0 (w2.alloc (.cells (madeCells #[.int .u8 0] n0) 5)) g w2.heap.size b' xs mask n0 0) := rel1_start HG.out HOB.out HB2.out
    go_wp2
    go_loopw [8, 9] (fun i _ wr => ∃ k : Nat, k ≤ n0 ∧ i = .int .i64 k ∧ Hid (Rel1 w0 wr g w2.heap.size b' xs mask n0 k)) (fun i _ _ => n0 - (intOf i).toNat)
    case atStart => exact ⟨0, Nat.zero_le _, rfl, R0⟩
    case round =>
      obtain ⟨k, hk, rfl, hR⟩ := hrel
      clear hmk R0
      by_cases hlt : k < n0
      · have cx := rel1_x hR.out (by rw [LX.out]; exact hlt)
        obtain ⟨v, cm⟩ := rel1_m hR.out hlt
        have fm := rel1_f hR.out (k := k)
        obtain ⟨bx0, bx1⟩ := OX.out k (by rw [LX.out]; exact hlt)
        have NX : Hid (∀ m : Int, 0 ≤ m → m ≤ 255 → low (xs.getD k 0) = low m → Rel1 w0 (wr.setCell ⟨w2.heap.size, k, none⟩ (.int .u8 m)) g w2.heap.size b' xs mask n0 (k + 1)) := fun m h0 h1 hl => rel1_next hR.out hlt h0 h1 hl
        have CY : Hid (k < n1 → ∃ j, b' = some ⟨j, 0, none⟩ ∧ wr.cell? ⟨j, k, none⟩ = some (.int .u8 (mask.getD k 0))) := fun h => rel1_y hR.out (by rw [LY.out]; exact h)
        clear hR
        generalize xs.getD k 0 = z at *
        by_cases hm : k < n1
        · obtain ⟨j, rfl, cy⟩ := CY.out hm
          clear CY
          generalize mask.getD k 0 = y at *
          cases hy : (bits .and .u8 y 1 == 1)
          · have N1 : Hid (Rel1 w0 (wr.setCell ⟨w2.heap.size, k, none⟩ (.int .u8 z)) g w2.heap.size _ xs mask n0 (k + 1)) := NX.out z bx0 bx1 rfl
            clear NX
            go_wp2
            go_roundw
            case rel => exact ⟨k + 1, by omega, by go_num, N1⟩
            case measure => simp [intOf]; omega
          · cases hz : letB z
            · have N1 : Hid (Rel1 w0 (wr.setCell ⟨w2.heap.size, k, none⟩ (.int .u8 z)) g w2.heap.size _ xs mask n0 (k + 1)) := NX.out z bx0 bx1 rfl
              clear NX
              go_wp2_with (go_at_call 17; refine (letter_any z bx0 bx1 _).mono ?_; rintro e w' ⟨rfl, rfl⟩)
              go_roundw
              case rel => exact ⟨k + 1, by omega, by go_num, N1⟩
              case measure => simp [intOf]; omega
            · obtain ⟨f0, f1, f2⟩ := flip_bit bx0 bx1 hz
              have N1 : Hid (Rel1 w0 (wr.setCell ⟨w2.heap.size, k, none⟩ (.int .u8 (bits .xor .u8 z 32))) g w2.heap.size _ xs mask n0 (k + 1)) := NX.out _ f0 f1 f2
              clear NX f2
              go_wp2_with (go_at_call 17; refine (letter_any z bx0 bx1 _).mono ?_; rintro e w' ⟨rfl, rfl⟩)
              go_roundw
              case rel => exact ⟨k + 1, by omega, by go_num, N1⟩
              case measure => simp [intOf]; omega
        · clear CY
          have N1 : Hid (Rel1 w0 (wr.setCell ⟨w2.heap.size, k, none⟩ (.int .u8 z)) g w2.heap.size _ xs mask n0 (k + 1)) := NX.out z bx0 bx1 rfl
          clear NX
          go_wp2
          go_roundw
          case rel => exact ⟨k + 1, by omega, by go_num, N1⟩
          case measure => simp [intOf]; omega
      · have e : k = n0 := by omega
        obtain ⟨wq, hwq⟩ : ∃ wq, wq = wr := ⟨_, rfl⟩
        subst hwq
        obtain ⟨ms, f, hm, hx, -, hb, -, -, -⟩ := hR.out
        have OM : Hid (Octets ms) := f.2.1
        have LM : Hid (ms.length = n0) := f.1
        have YES : Hid (nameEq xs ms = true) := alikeTo_all LX.out LM.out (e ▸ f.2.2)
        have OwX : Hid (Own .u8 5 wq (some ⟨g, 0, none⟩) xs) := .inr ⟨g, rfl, hx⟩
        have OwM : Hid (Own .u8 5 wq (some ⟨w2.heap.size, 0, none⟩) ms) := .inr ⟨_, rfl, hm⟩
        have HB3 : Hid (Below w0.heap.size w0 wq) := hb
        clear f hm hx hb hR e
        have hmk := make8_succ n0 (by omega)
        go_wp2_with fail
        refine (eq_any (some ⟨g, 0, none⟩) (some ⟨w2.heap.size, 0, none⟩) n0 n0 xs ms _ OwX.out OwM.out LX.out LM.out (by omega) (by omega) OX.out OM.out).mono ?_
        rw [YES.out]
        rintro e w4 ⟨rfl, q1, rfl⟩
        go_wp2_with fail
        refine (eq_any (some ⟨w2.heap.size, 0, none⟩) (some ⟨g, 0, none⟩) n0 n0 ms xs _ (OwM.out.drewN _) (OwX.out.drewN _) LM.out LX.out (by omega) (by omega) OM.out OX.out).mono ?_
        rw [nameEq_symm, YES.out]
        rintro e w4 ⟨rfl, q2, rfl⟩
        go_wp2_with fail
        have S0 : Hid (Rel2 w0 ((wq.drewN (q1 + q2)).alloc (.cells (madeCells #[.int .u8 0] (n0 + 1)) 5)) (some ⟨w2.heap.size, 0, none⟩) wq.heap.size ms n0) := rel2_start (w2 := wq.drewN (q1 + q2)) (OwM.out.drewN _) (below_drewN HB3.out _)
        clear hmk
        go_loopw [11] (fun i wt => ∃ k : Nat, k ≤ n0 ∧ i = .int .i64 k ∧ Hid (Rel2 w0 wt (some ⟨w2.heap.size, 0, none⟩) wq.heap.size ms n0)) (fun i _ => n0 - (intOf i).toNat)
        case atStart => exact ⟨0, Nat.zero_le _, rfl, S0⟩
        case round =>
          obtain ⟨i, hi, rfl, hR⟩ := hrel
          clear S0
          by_cases hli : i < n0
          · have cm := rel2_m hR.out (k := i) (by rw [LM.out]; exact hli)
            obtain ⟨v, cl⟩ := rel2_l hR.out (k := i) (by omega)
            have fl := rel2_f hR.out (k := i)
            have N1 : Hid (Rel2 w0 (wr.setCell ⟨wq.heap.size, i, none⟩ (.int .u8 (ms.getD i 0))) (some ⟨w2.heap.size, 0, none⟩) wq.heap.size ms n0) := rel2_next hR.out i _
            generalize ms.getD i 0 = y at *
            clear hR
            have hli2 : i < n0 + 1 := by omega
            go_wp2
            go_roundw
            case rel => exact ⟨i + 1, by omega, by go_num, N1⟩
            case measure => simp [intOf]; omega
          · have e : i = n0 := by omega
            clear e
            obtain ⟨v, cl⟩ := rel2_l hR.out (k := n0) (by omega)
            have fl := rel2_f hR.out (k := n0)
            have N1 : Hid (Below w0.heap.size w0 (wr.setCell ⟨wq.heap.size, n0, none⟩ (.int .u8 x))) := rel2_below (rel2_next hR.out n0 x)
            clear hR
            go_wp2_with fail
            refine (eq_diff (some ⟨g, 0, none⟩) (some ⟨wq.heap.size, 0, none⟩) n0 n0 (n0 + 1) (n0 + 1) (by omega) (by omega) (by omega) _).mono ?_
            rintro e w4 ⟨rfl, rfl⟩
            go_wp2_with fail
            refine (eq_diff (some ⟨wq.heap.size, 0, none⟩) (some ⟨g, 0, none⟩) (n0 + 1) (n0 + 1) n0 n0 (by omega) (by omega) (by omega) _).mono ?_
            rintro e w4 ⟨rfl, rfl⟩
            go_wp2
            go_ret
            exact ⟨rfl, N1.out⟩
end Go.Proofs.Qxb6603740a
