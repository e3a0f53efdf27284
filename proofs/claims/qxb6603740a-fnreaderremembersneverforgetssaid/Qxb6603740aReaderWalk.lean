/-
  THE WALK OF FnReaderRemembersNeverForgets.
-/
import Derived.Test.Qxb6603740aZZRem
namespace Go.Proofs.Qxb6603740a
open Go.ChangeShapes Go.WideShapes Go.ChangeAt Go.RowKit

/-- The bound on the total length: some answer; no memory is touched. -/
theorem bytes18_any (a0 a4 a5 a6 a7 : Option Addr) (n0 c0 n4 c4 n5 c5 n6 c6 n7 c7 : Nat) (x y z : Int) (w : World) :
    Calls Try.prog 18 #[.slice a0 n0 c0, .int .i64 x, .int .i64 y, .int .i64 z, .slice a4 n4 c4, .slice a5 n5 c5, .slice a6 n6 c6, .slice a7 n7 c7] w fun e w' => (∃ t, e = .returned (.bool t)) ∧ w' = w := by
  go_enter Try.func18, Try.ntmps18
  go_wp2
  all_goals
    go_ret
    exact ⟨⟨_, rfl⟩, rfl⟩

set_option maxRecDepth 100000 in
set_option maxHeartbeats 1600000 in
theorem reader_any (a0 a4 a5 a6 a7 : Option Addr) (n0 c0 n4 c4 n5 c5 n6 c6 n7 c7 : Nat) (en r r2 : Int) (ms ls ns os qs : List Int) (w : World)
    (h0 : Came .u8 w a0 n0 ms) (h4 : Came .u8 w a4 n4 ls) (h5 : Came .u16 w a5 n5 ns) (h6 : Came .u16 w a6 n6 os) (h7 : Came .u16 w a7 n7 qs)
    (k0 : a0 = none → c0 = 0) (k4 : a4 = none → c4 = 0) (k5 : a5 = none → c5 = 0) (k6 : a6 = none → c6 = 0) (k7 : a7 = none → c7 = 0) :
    Calls Try.prog 9 #[.slice a0 n0 c0, .int .i64 en, .int .i64 r, .int .i64 r2, .slice a4 n4 c4, .slice a5 n5 c5, .slice a6 n6 c6, .slice a7 n7 c7] w fun e w' => e = .returned (.bool true) ∧ Below w.heap.size w w' := by
  have H0 : Hid (Came .u8 w a0 n0 ms) := h0
  have H4 : Hid (Came .u8 w a4 n4 ls) := h4
  have H5 : Hid (Came .u16 w a5 n5 ns) := h5
  have H6 : Hid (Came .u16 w a6 n6 os) := h6
  have H7 : Hid (Came .u16 w a7 n7 qs) := h7
  have K0 : Hid (a0 = none → c0 = 0) := k0
  have K4 : Hid (a4 = none → c4 = 0) := k4
  have K5 : Hid (a5 = none → c5 = 0) := k5
  have K6 : Hid (a6 = none → c6 = 0) := k6
  have K7 : Hid (a7 = none → c7 = 0) := k7
  clear h0 h4 h5 h6 h7 k0 k4 k5 k6 k7
  have q25 : ∀ (w : World) (a : Option Addr) (n c n' c' : Nat), (binOp .eql 25 (.slice a n c) (.slice none n' c')).run Try.prog w = .ok (.bool a.isNone) w := fun w a n c n' c' => Lib.run_eql_slice_nil w _ _ a n c n' c' Try.underlying25
  have q32 : ∀ (w : World) (a : Option Addr) (n c n' c' : Nat), (binOp .eql 32 (.slice a n c) (.slice none n' c')).run Try.prog w = .ok (.bool a.isNone) w := fun w a n c n' c' => Lib.run_eql_slice_nil w _ _ a n c n' c' Try.underlying32
  go_enter Try.func9, Try.ntmps9
  go_wp2_with fail
  refine (bytes18_any a0 a4 a5 a6 a7 n0 c0 n4 c4 n5 c5 n6 c6 n7 c7 en r r2 _).mono ?_
  rintro e w0 ⟨⟨t, rfl⟩, rfl⟩
  cases t
  · go_wp2
    go_ret
    exact ⟨rfl, Below.refl _ _⟩
  go_wp2_with fail
  all_goals try (go_ret; exact ⟨rfl, Below.refl _ _⟩)
  have hN : n4 = n5 := by omega
  have hP : n6 = n7 := by omega
  subst hN
  subst hP
  have E1 : Hid (a5.isNone = a4.isNone) := by
    have h : (!a4.isNone == a5.isNone) = false := by assumption
    revert h
    cases a4.isNone <;> cases a5.isNone <;> simp [Hid]
  have E2 : Hid (a7.isNone = a6.isNone) := by
    have h : (!a6.isNone == a7.isNone) = false := by assumption
    revert h
    cases a6.isNone <;> cases a7.isNone <;> simp [Hid]
  have b0 : n0 ≤ 131072 := by omega
  have b4 : n4 ≤ 131072 := by omega
  have b6 : n6 ≤ 131072 := by omega
  refine (clone8_any a0 n0 c0 ms _ H0.out K0.out (by omega)).mono ?_
  rintro e w1 ⟨m0, rfl, -, ho, hb⟩
  have OM1 : Hid (Own .u8 5 w1 m0 ms) := ho
  have B1 : Hid (Below w0.heap.size w0 w1) := hb
  clear ho hb
  go_wp2_with fail
  refine (clone8_any a4 n4 c4 ls _ (H4.out.below B1.out) K4.out (by omega)).mono ?_
  rintro e w2 ⟨t1, rfl, hi1, ho, hb⟩
  have T1 : Hid (t1.isNone = a4.isNone) := hi1
  have OM2 : Hid (Own .u8 5 w2 m0 ms) := OM1.out.below hb
  have OT2 : Hid (Own .u8 5 w2 t1 ls) := ho
  have B2 : Hid (Below w0.heap.size w0 w2) := B1.out.trans (hb.mono B1.out.size)
  clear hi1 ho hb OM1 B1
  go_wp2_with fail
  refine (clone16_any a5 n4 c5 ns _ (H5.out.below B2.out) K5.out (by omega)).mono ?_
  rintro e w3 ⟨t2, rfl, hi1, ho, hb⟩
  have T2 : Hid (t2.isNone = a5.isNone) := hi1
  have OM3 : Hid (Own .u8 5 w3 m0 ms) := OM2.out.below hb
  have OT3 : Hid (Own .u8 5 w3 t1 ls) := OT2.out.below hb
  have ON3 : Hid (Own .u16 38 w3 t2 ns) := ho
  have B3 : Hid (Below w0.heap.size w0 w3) := B2.out.trans (hb.mono B2.out.size)
  clear hi1 ho hb OM2 OT2 B2
  go_wp2_with fail
  refine (clone16_any a6 n6 c6 os _ (H6.out.below B3.out) K6.out (by omega)).mono ?_
  rintro e w4 ⟨p1, rfl, hi1, ho, hb⟩
  have P1 : Hid (p1.isNone = a6.isNone) := hi1
  have OM4 : Hid (Own .u8 5 w4 m0 ms) := OM3.out.below hb
  have OT4 : Hid (Own .u8 5 w4 t1 ls) := OT3.out.below hb
  have ON4 : Hid (Own .u16 38 w4 t2 ns) := ON3.out.below hb
  have OO4 : Hid (Own .u16 38 w4 p1 os) := ho
  have B4 : Hid (Below w0.heap.size w0 w4) := B3.out.trans (hb.mono B3.out.size)
  clear hi1 ho hb OM3 OT3 ON3 B3
  go_wp2_with fail
  refine (clone16_any a7 n6 c7 qs _ (H7.out.below B4.out) K7.out (by omega)).mono ?_
  rintro e w5 ⟨p2, rfl, hi1, ho, hb⟩
  have P2 : Hid (p2.isNone = p1.isNone) := by rw [hi1, P1.out]; exact E2.out
  have T3 : Hid (t2.isNone = t1.isNone) := by rw [T1.out, T2.out]; exact E1.out
  have OM5 : Hid (Own .u8 5 w5 m0 ms) := OM4.out.below hb
  have OT5 : Hid (Own .u8 5 w5 t1 ls) := OT4.out.below hb
  have ON5 : Hid (Own .u16 38 w5 t2 ns) := ON4.out.below hb
  have OO5 : Hid (Own .u16 38 w5 p1 os) := OO4.out.below hb
  have OQ5 : Hid (Own .u16 38 w5 p2 qs) := ho
  have B5 : Hid (Below w0.heap.size w0 w5) := B4.out.trans (hb.mono B4.out.size)
  have LM : Hid (ms.length = n0) := H0.out.1
  have LL : Hid (ls.length = n4) := H4.out.1
  have LN : Hid (ns.length = n4) := H5.out.1
  have LO : Hid (os.length = n6) := H6.out.1
  have LQ : Hid (qs.length = n6) := H7.out.1
  clear hi1 ho hb OM4 OT4 ON4 OO4 B4 P1 T1 T2 E1 E2 H0 H4 H5 H6 H7 K0 K4 K5 K6 K7
  go_wp2_with fail
  refine (zzrem_any m0 t1 t2 p1 p2 n0 n4 n6 en r ls ns os qs _ OT5.out ON5.out OO5.out OQ5.out T3.out P2.out LL.out LN.out LO.out LQ.out (by omega) (by omega) (by omega)).mono ?_
  rintro e w6 ⟨ok1, nt, u1, u2, v1, v2, ls1, ns1, rfl, -, hu1, hu2, hv1, hv2, h1, h2, h3, h4, h5, h6, h7, -, hb⟩
  have U1 : Hid (u1.isNone = !ok1) := hu1
  have U2 : Hid (u2.isNone = !ok1) := hu2
  have V2 : Hid (v2.isNone = v1.isNone) := hv2.trans hv1.symm
  have OM6 : Hid (Own .u8 5 w6 m0 ms) := OM5.out.below hb
  have OT6 : Hid (Own .u8 5 w6 u1 ls1) := h1
  have ON6 : Hid (Own .u16 38 w6 u2 ns1) := h2
  have OO6 : Hid (Own .u16 38 w6 v1 os) := h3
  have OQ6 : Hid (Own .u16 38 w6 v2 qs) := h4
  have LL1 : Hid (ls1.length = nt) := h5
  have LN1 : Hid (ns1.length = nt) := h6
  have B6 : Hid (Below w0.heap.size w0 w6) := B5.out.trans (hb.mono B5.out.size)
  have bt := h7
  clear hu1 hu2 hv1 hv2 h1 h2 h3 h4 h5 h6 h7 hb OM5 OT5 ON5 OO5 OQ5 B5 T3 P2 LL LN
  go_wp2_with fail
  refine (zzrem_any m0 u1 u2 v1 v2 n0 nt n6 en r2 ls1 ns1 os qs _ OT6.out ON6.out OO6.out OQ6.out (U2.out.trans U1.out.symm) V2.out LL1.out LN1.out LO.out LQ.out (by omega) (by omega) (by omega)).mono ?_
  rintro e w7 ⟨ok2, nt2, x1, x2, y1, y2, ls2, ns2, rfl, hok, hx1, hx2, -, -, h1, h2, -, -, h5, h6, h7, hs, hb⟩
  have OK2 : Hid (ok2 = (!u1.isNone || decide ((n0 : Int) < r2))) := hok
  have X1 : Hid (x1.isNone = !ok2) := hx1
  have X2 : Hid (x2.isNone = !ok2) := hx2
  have OM7 : Hid (Own .u8 5 w7 m0 ms) := OM6.out.below hb
  have OT7 : Hid (Own .u8 5 w7 u1 ls1) := OT6.out.below hb
  have ON7 : Hid (Own .u16 38 w7 u2 ns1) := ON6.out.below hb
  have OX7 : Hid (Own .u8 5 w7 x1 ls2) := h1
  have OY7 : Hid (Own .u16 38 w7 x2 ns2) := h2
  have LL2 : Hid (ls2.length = nt2) := h5
  have SAME : Hid (u1.isNone = false → ls2 = ls1 ∧ ns2 = ns1) := hs
  have B7 : Hid (Below w0.heap.size w0 w7) := B6.out.trans (hb.mono B6.out.size)
  clear hok hx1 hx2 h1 h2 h5 h6 h7 hs hb OM6 OT6 ON6 OO6 OQ6 B6 V2 LO LQ
  have q25n : ∀ (w : World) (a : Option Addr) (n c n' c' : Nat), (binOp .neq 25 (.slice a n c) (.slice none n' c')).run Try.prog w = .ok (.bool (!a.isNone)) w := fun w a n c n' c' => run_neq_slice_nil_any w _ _ a n c n' c' Try.underlying25
  have q32n : ∀ (w : World) (a : Option Addr) (n c n' c' : Nat), (binOp .neq 32 (.slice a n c) (.slice none n' c')).run Try.prog w = .ok (.bool (!a.isNone)) w := fun w a n c n' c' => run_neq_slice_nil_any w _ _ a n c n' c' Try.underlying32
  go_wp2_with fail
  refine (same8_any m0 m0 n0 ms _ OM7.out OM7.out rfl LM.out (by omega)).mono ?_
  rintro e w8 ⟨rfl, q1, rfl⟩
  cases ok1
  · have hu1 : u1 = none := by have := U1.out; simpa using this
    have hu2 : u2 = none := by have := U2.out; simpa using this
    subst hu1 hu2
    have hok : ok2 = decide ((n0 : Int) < r2) := OK2.out
    subst hok
    clear OK2 X1 X2 SAME U1 U2
    go_wp2
    go_ret
    exact ⟨rfl, below_drewN B7.out _⟩
  · have hu : u1.isNone = false := U1.out
    have hok : ok2 = true := by rw [OK2.out, hu]; rfl
    subst hok
    obtain ⟨e1, e2⟩ := SAME.out hu
    subst e1 e2
    have hn : nt2 = nt := by rw [← LL2.out]; exact LL1.out
    subst hn
    have hx : x1.isNone = false := X1.out
    have IX : Hid (u1.isNone = x1.isNone) := hu.trans hx.symm
    have IY : Hid (u2.isNone = x2.isNone) := U2.out.trans X2.out.symm
    clear OK2 X1 X2 SAME U1 U2 hu
    go_wp2_with fail
    refine (same8_any x1 u1 nt2 ls2 _ (OX7.out.drewN _) (OT7.out.drewN _) IX.out LL2.out bt).mono ?_
    rintro e w8 ⟨rfl, q2, rfl⟩
    go_wp2_with fail
    refine (same16_any x2 u2 nt2 ns2 _ (OY7.out.drewN _) (ON7.out.drewN _) IY.out LN1.out bt).mono ?_
    rintro e w8 ⟨rfl, q3, rfl⟩
    go_wp2
    go_ret
    exact ⟨rfl, below_drewN B7.out _⟩
end Go.Proofs.Qxb6603740a
