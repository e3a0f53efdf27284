/-
  THE CONTRACTS OF (*reader).remembers, ALL WAYS IN ONE, AND OF ZZRemembers.
-/
import Derived.Test.Qxb6603740aRem
namespace Go.Proofs.Qxb6603740a
open Go.ChangeShapes Go.WideShapes Go.ChangeAt Go.RowKit

/-- A reader lies in block R: msg, end, reads, tails, path. -/
def RD (w : World) (R : Nat) (vm : Value) (en r : Int) (tv pv : Value) : Prop :=
  R < w.heap.size ∧ w.cell? ⟨R, 0, none⟩ = some vm ∧ w.cell? ⟨R, 1, none⟩ = some (.int .i64 en) ∧ w.cell? ⟨R, 2, none⟩ = some (.int .i64 r) ∧ w.cell? ⟨R, 3, none⟩ = some tv ∧ w.cell? ⟨R, 4, none⟩ = some pv ∧ w.frozen? ⟨R, 3, none⟩ = false

theorem RD.below {w w' : World} {R B : Nat} {vm : Value} {en r : Int} {tv pv : Value} (h : RD w R vm en r tv pv) (hb : Below B w w') (hR : R < B) : RD w' R vm en r tv pv := by
  obtain ⟨h, h0, h1, h2, h3, h4, h5⟩ := h
  exact ⟨Nat.lt_of_lt_of_le h hb.size, (hb.cell (by exact hR)).trans h0, (hb.cell (by exact hR)).trans h1, (hb.cell (by exact hR)).trans h2, (hb.cell (by exact hR)).trans h3, (hb.cell (by exact hR)).trans h4, (hb.frozen (by exact hR)).trans h5⟩

theorem RD.made (w : World) (vm : Value) (en r : Int) (tv pv : Value) : RD (w.alloc (.cells #[vm, .int .i64 en, .int .i64 r, tv, pv] 45)) w.heap.size vm en r tv pv := by
  have hh : (w.alloc (.cells #[vm, .int .i64 en, .int .i64 r, tv, pv] 45)).heap[w.heap.size]? = some (.cells #[vm, .int .i64 en, .int .i64 r, tv, pv] 45 (0, 0)) := heap_alloc_new w _
  refine ⟨by simp, ?_, ?_, ?_, ?_, ?_, frozen_of_row _ _ _ _ _ hh⟩
  all_goals
    rw [cell_of_row _ _ _ _ _ _ hh]
    rfl

/-- A store into the field tails. -/
theorem RD.stored {w : World} {R : Nat} {vm : Value} {en r : Int} {tv pv : Value} (h : RD w R vm en r tv pv) (v : Value) : RD (w.setCell ⟨R, 3, none⟩ v) R vm en r v pv := by
  obtain ⟨h, h0, h1, h2, h3, h4, h5⟩ := h
  exact ⟨by simpa using h, (World.cell?_setCell_other w _ _ v (by simp)).trans h0, (World.cell?_setCell_other w _ _ v (by simp)).trans h1, (World.cell?_setCell_other w _ _ v (by simp)).trans h2, World.cell?_setCell_same w _ v h3, (World.cell?_setCell_other w _ _ v (by simp)).trans h4, by rw [World.frozen?_setCell]; exact h5⟩

/-- remembers, all ways: it answers true where tails are there or more was read than the message has octets; then tails are there. -/
theorem rem_any (R nm nt : Nat) (am a : Option Addr) (en r : Int) (pv : Value) (ls ns : List Int) (w : World) (h : RD w R (.slice am nm nm) en r (.slice a nt nt) pv) (hp : POwn .u8 .u16 52 w a ls ns) (hl : ls.length = nt) (hm : nm ≤ 1073741824) (hn : nt ≤ 1073741824) :
    Calls Try.prog 26 #[.pointer (some ⟨R, 0, none⟩)] w fun e w' => ∃ (ok : Bool) (a' : Option Addr) (nt' : Nat) (ls' ns' : List Int), e = .returned (.bool ok) ∧ ok = (!a.isNone || decide ((nm : Int) < r)) ∧ a'.isNone = !ok ∧
      RD w' R (.slice am nm nm) en r (.slice a' nt' nt') pv ∧ POwn .u8 .u16 52 w' a' ls' ns' ∧ ls'.length = nt' ∧ nt' ≤ 1073741824 ∧ (a.isNone = false → ls' = ls ∧ ns' = ns) ∧ Below R w w' := by
  obtain ⟨hR, h0, h1, h2, h3, h4, h5⟩ := h
  have hRD : RD w R (.slice am nm nm) en r (.slice a nt nt) pv := ⟨hR, h0, h1, h2, h3, h4, h5⟩
  rcases hp with ⟨rfl, rfl, rfl⟩ | ⟨g, rfl, hg⟩
  · have e0 : nt = 0 := hl.symm
    subst e0
    by_cases hr : (nm : Int) < r
    · have mk : ∀ (m : Nat), m ≤ 1073741824 → ∀ (e : Ending) (w' : World), (e = .returned (.bool true) ∧ ∃ q, w' = ((w.drewN q).alloc (.cells (madeCells #[.int .u8 0, .int .u16 0] (m * 2)) 52)).setCell ⟨R, 3, none⟩ (.slice (some ⟨w.heap.size, 0, none⟩) m m)) →
          ∃ (ok : Bool) (a' : Option Addr) (nt' : Nat) (ls' ns' : List Int), e = .returned (.bool ok) ∧ ok = (!(none : Option Addr).isNone || decide ((nm : Int) < r)) ∧ a'.isNone = !ok ∧
            RD w' R (.slice am nm nm) en r (.slice a' nt' nt') pv ∧ POwn .u8 .u16 52 w' a' ls' ns' ∧ ls'.length = nt' ∧ nt' ≤ 1073741824 ∧ ((none : Option Addr).isNone = false → ls' = [] ∧ ns' = []) ∧ Below R w w' := by
        rintro m hm' e w' ⟨he, q, rfl⟩
        have hb : Below (w.drewN q).heap.size (w.drewN q) ((w.drewN q).alloc (.cells (madeCells #[.int .u8 0, .int .u16 0] (m * 2)) 52)) := (Below.refl _ _).alloc (Nat.le_refl _) _
        refine ⟨true, some ⟨w.heap.size, 0, none⟩, m, List.replicate m 0, List.replicate m 0, he, by simp [hr], rfl, ?_, ?_, by simp, hm', ?_, ?_⟩
        · exact RD.stored (RD.below (w := w.drewN q) hRD hb (by exact hR)) _
        · exact .inr ⟨_, rfl, (PHeld.made .u8 .u16 52 (w.drewN q) m).other (Nat.ne_of_gt (by exact hR)) _⟩
        · intro h; simp at h
        · exact ((below_drewN (Below.refl R w) q).alloc (Nat.le_of_lt (by exact hR)) _).setCell (Nat.le_refl _) _
      by_cases hs : (nm : Int) ≤ 16639
      · exact (rem_small R nm nm am r w hs hR h0 h2 h3 h5 hr (fun w => maketails w nm hm)).mono (mk nm hm)
      · exact (rem_big R nm 16639 am r w (by omega) hR h0 h2 h3 h5 hr (fun w => maketails w 16639 (by omega))).mono (mk 16639 (by omega))
    · refine (rem_no R nm am r w h0 h2 h3 hr).mono ?_
      rintro e w' ⟨he, q, rfl⟩
      exact ⟨false, none, 0, [], [], he, by simp [hr], rfl, hRD, .inl ⟨rfl, rfl, rfl⟩, rfl, by omega, fun _ => ⟨rfl, rfl⟩, below_drewN (Below.refl R w) q⟩
  · refine (rem_held R nt ⟨g, 0, none⟩ w h3).mono ?_
    rintro e w' ⟨he, q, rfl⟩
    exact ⟨true, some ⟨g, 0, none⟩, nt, ls, ns, he, by simp, rfl, hRD, .inr ⟨g, rfl, hg⟩, hl, hn, fun _ => ⟨rfl, rfl⟩, below_drewN (Below.refl R w) q⟩

set_option maxHeartbeats 1000000 in
theorem zzrem_any (am a1 a2 p1 p2 : Option Addr) (nm nt np : Nat) (en r : Int) (ls ns os qs : List Int) (w : World)
    (h1 : Own .u8 5 w a1 ls) (h2 : Own .u16 38 w a2 ns) (g1 : Own .u16 38 w p1 os) (g2 : Own .u16 38 w p2 qs)
    (e1 : a2.isNone = a1.isNone) (e2 : p2.isNone = p1.isNone) (l1 : ls.length = nt) (l2 : ns.length = nt) (l3 : os.length = np) (l4 : qs.length = np)
    (bm : nm ≤ 1073741824) (bt : nt ≤ 1073741824) (bp : np ≤ 1073741824) :
    Calls Try.prog 20 #[.slice am nm nm, .int .i64 en, .int .i64 r, .slice a1 nt nt, .slice a2 nt nt, .slice p1 np np, .slice p2 np np] w fun e w' =>
      ∃ (ok : Bool) (nt' : Nat) (b1 b2 c1 c2 : Option Addr) (ls' ns' : List Int),
        e = .returned (.tuple #[.bool ok, .slice am nm nm, .int .i64 en, .int .i64 r, .slice b1 nt' nt', .slice b2 nt' nt', .slice c1 np np, .slice c2 np np]) ∧
        ok = (!a1.isNone || decide ((nm : Int) < r)) ∧ b1.isNone = !ok ∧ b2.isNone = !ok ∧ c1.isNone = p1.isNone ∧ c2.isNone = p1.isNone ∧
        Own .u8 5 w' b1 ls' ∧ Own .u16 38 w' b2 ns' ∧ Own .u16 38 w' c1 os ∧ Own .u16 38 w' c2 qs ∧ ls'.length = nt' ∧ ns'.length = nt' ∧ nt' ≤ 1073741824 ∧
        (a1.isNone = false → ls' = ls ∧ ns' = ns) ∧ Below w.heap.size w w' := by
  have H1 : Hid (Own .u8 5 w a1 ls) := h1
  have H2 : Hid (Own .u16 38 w a2 ns) := h2
  have G1 : Hid (Own .u16 38 w p1 os) := g1
  have G2 : Hid (Own .u16 38 w p2 qs) := g2
  have E1 : Hid (a2.isNone = a1.isNone) := e1
  have E2 : Hid (p2.isNone = p1.isNone) := e2
  have L1 : Hid (ls.length = nt) := l1
  have L2 : Hid (ns.length = nt) := l2
  have L3 : Hid (os.length = np) := l3
  have L4 : Hid (qs.length = np) := l4
  clear h1 h2 g1 g2 e1 e2 l1 l2 l3 l4
  go_enter Try.func20, Try.ntmps20
  go_wp2_with fail
  refine (tailsIn_any a1 a2 nt ls ns _ H1.out H2.out E1.out L1.out L2.out bt).mono ?_
  rintro e w1 ⟨t, rfl, hti, hto, hb1⟩
  have HTI : Hid (t.isNone = a1.isNone) := hti
  have HTO : Hid (POwn .u8 .u16 52 w1 t ls ns) := hto
  have HB1 : Hid (Below w.heap.size w w1) := hb1
  clear hti hto hb1
  go_wp2_with fail
  refine (stepsIn_any p1 p2 np os qs _ (G1.out.below HB1.out) (G2.out.below HB1.out) E2.out L3.out L4.out bp).mono ?_
  rintro e w2 ⟨s, rfl, hsi, hso, hb2⟩
  have HSI : Hid (s.isNone = p1.isNone) := hsi
  have HSO : Hid (POwn .u16 .u16 54 w2 s os qs) := hso
  have HTO2 : Hid (POwn .u8 .u16 52 w2 t ls ns) := HTO.out.below hb2
  have HB2 : Hid (Below w.heap.size w w2) := HB1.out.trans (hb2.mono HB1.out.size)
  clear hsi hso hb2 HTO HB1
  go_wp2_with fail
  have hrd := RD.made w2 (.slice am nm nm) en r (.slice t nt nt) (.slice s np np)
  have hbx : Below w2.heap.size w2 (w2.alloc (.cells #[.slice am nm nm, .int .i64 en, .int .i64 r, .slice t nt nt, .slice s np np] 45)) := (Below.refl _ _).alloc (Nat.le_refl _) _
  refine (rem_any w2.heap.size nm nt am t en r (.slice s np np) ls ns _ hrd (HTO2.out.below hbx) L1.out bm bt).mono ?_
  rintro e w3 ⟨ok, t', nt', ls', ns', rfl, hok, htn, hrd3, hpo3, hl3, hn3, hsame, hb3⟩
  have OK : Hid (ok = (!a1.isNone || decide ((nm : Int) < r))) := by rw [← HTI.out]; exact hok
  have TN : Hid (t'.isNone = !ok) := htn
  have RD3 : Hid (RD w3 w2.heap.size (.slice am nm nm) en r (.slice t' nt' nt') (.slice s np np)) := hrd3
  have PO3 : Hid (POwn .u8 .u16 52 w3 t' ls' ns') := hpo3
  have HL3 : Hid (ls'.length = nt') := hl3
  have SAME : Hid (a1.isNone = false → ls' = ls ∧ ns' = ns) := by rw [← HTI.out]; exact hsame
  have SO3 : Hid (POwn .u16 .u16 54 w3 s os qs) := HSO.out.below (hbx.trans hb3)
  have HB3 : Hid (Below w.heap.size w w3) := HB2.out.trans ((hbx.trans hb3).mono HB2.out.size)
  clear hok htn hrd3 hpo3 hl3 hsame hb3 hbx hrd HTO2 HSO HB2 H1 H2 G1 G2 E1 E2 L1 L2 HTI
  generalize w2.heap.size = R at *
  have c3 : w3.cell? ⟨R, 3, none⟩ = some (.slice t' nt' nt') := RD3.out.2.2.2.2.1
  go_wp2_with fail
  refine (tailsOut_any t' nt' ls' ns' _ PO3.out HL3.out hn3).mono ?_
  rintro e w4 ⟨b1, b2, rfl, hb1, hb2, ho1, ho2, hB⟩
  have I1 : Hid (b1.isNone = !ok) := hb1.trans TN.out
  have I2 : Hid (b2.isNone = !ok) := hb2.trans TN.out
  have O1 : Hid (Own .u8 5 w4 b1 ls') := ho1
  have O2 : Hid (Own .u16 38 w4 b2 ns') := ho2
  have RD4 : Hid (RD w4 R (.slice am nm nm) en r (.slice t' nt' nt') (.slice s np np)) := RD3.out.below hB RD3.out.1
  have SO4 : Hid (POwn .u16 .u16 54 w4 s os qs) := SO3.out.below hB
  have HB4 : Hid (Below w.heap.size w w4) := HB3.out.trans (hB.mono HB3.out.size)
  have LN : Hid (ns'.length = nt') := PO3.out.len.trans HL3.out
  clear hb1 hb2 ho1 ho2 hB c3 RD3 SO3 HB3 PO3 TN
  have c4 : w4.cell? ⟨R, 4, none⟩ = some (.slice s np np) := RD4.out.2.2.2.2.2.1
  go_wp2_with fail
  refine (stepsOut_any s np os qs _ SO4.out L3.out bp).mono ?_
  rintro e w5 ⟨d1, d2, rfl, hd1, hd2, ho3, ho4, hB⟩
  have I3 : Hid (d1.isNone = p1.isNone) := hd1.trans HSI.out
  have I4 : Hid (d2.isNone = p1.isNone) := hd2.trans HSI.out
  have O3 : Hid (Own .u16 38 w5 d1 os) := ho3
  have O4 : Hid (Own .u16 38 w5 d2 qs) := ho4
  have O1' : Hid (Own .u8 5 w5 b1 ls') := O1.out.below hB
  have O2' : Hid (Own .u16 38 w5 b2 ns') := O2.out.below hB
  have RD5 : Hid (RD w5 R (.slice am nm nm) en r (.slice t' nt' nt') (.slice s np np)) := RD4.out.below hB RD4.out.1
  have HB5 : Hid (Below w.heap.size w w5) := HB4.out.trans (hB.mono HB4.out.size)
  clear hd1 hd2 ho3 ho4 hB c4 RD4 SO4 HB4 O1 O2 HSI
  have k0 : w5.cell? ⟨R, 0, none⟩ = some (.slice am nm nm) := RD5.out.2.1
  have k1 : w5.cell? ⟨R, 1, none⟩ = some (.int .i64 en) := RD5.out.2.2.1
  have k2 : w5.cell? ⟨R, 2, none⟩ = some (.int .i64 r) := RD5.out.2.2.2.1
  go_wp2
  go_quiet (fail)
  go_wp2
  exact bodyPost_ret (v := .tuple #[.bool ok, .slice am nm nm, .int .i64 en, .int .i64 r, .slice b1 nt' nt', .slice b2 nt' nt', .slice d1 np np, .slice d2 np np]) (by simp [results, Try.results20, go_sem]) rfl
    ⟨ok, nt', b1, b2, d1, d2, ls', ns', rfl, OK.out, I1.out, I2.out, I3.out, I4.out, O1'.out.drewN _, O2'.out.drewN _, O3.out.drewN _, O4.out.drewN _, HL3.out, LN.out, hn3, SAME.out, below_drewN HB5.out _⟩
end Go.Proofs.Qxb6603740a
