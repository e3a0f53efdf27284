/-
  WHAT THE TWO LOOPS OF FnNameEqualCaseFlip KEEP: memory and octets; and the bound on the lengths (zzBytes_FnNameEqualCaseFlip).
-/
import Derived.Test.Qxb6603740aEqual
namespace Go.Proofs.Qxb6603740a
open Go.ChangeShapes Go.WideShapes Go.ChangeAt Go.RowKit

/-- The bound on the total length: some answer; no memory is touched. -/
theorem bytes16_any (a b : Option Addr) (n0 c0 n1 c1 : Nat) (x : Int) (w : World) :
    Calls Try.prog 16 #[.slice a n0 c0, .slice b n1 c1, .int .u8 x] w fun e w' => (∃ t, e = .returned (.bool t)) ∧ w' = w := by
  go_enter Try.func16, Try.ntmps16
  go_wp2
  all_goals
    go_ret
    exact ⟨⟨_, rfl⟩, rfl⟩

/-- What the first loop has made after j rounds: j octets ms, each folding as its fellow in xs, then zeros. -/
def Flipped (xs ms : List Int) (n j : Nat) : Prop := ms.length = n ∧ Octets ms ∧ (∀ i, i < j → low (xs.getD i 0) = low (ms.getD i 0))

theorem flipped_zero (xs : List Int) (n : Nat) : Flipped xs (List.replicate n 0) n 0 := by
  refine ⟨by simp, ?_, fun i hi => by omega⟩
  intro j hj
  simp at hj
  simp [List.getD, hj]

theorem flipped_set {xs ms : List Int} {n j : Nat} (h : Flipped xs ms n j) (hj : j < n) {m : Int} (h0 : 0 ≤ m) (h1 : m ≤ 255) (hl : low (xs.getD j 0) = low m) : Flipped xs (ms.set j m) n (j + 1) := by
  obtain ⟨a, b, c⟩ := h
  refine ⟨by simpa using a, ?_, ?_⟩
  · intro i hi
    simp at hi
    by_cases e : i = j
    · subst e; simp [List.getD, List.getElem?_set_self hi]; omega
    · have := b i hi
      simpa [List.getD, List.getElem?_set_ne (Ne.symm e)] using this
  · intro i hi
    by_cases e : i = j
    · subst e
      have : (ms.set i m).getD i 0 = m := by simp [List.getD, List.getElem?_set_self (show i < ms.length by omega)]
      rw [this]; exact hl
    · have : (ms.set j m).getD i 0 = ms.getD i 0 := by simp [List.getD, List.getElem?_set_ne (Ne.symm e)]
      rw [this]; exact c i (by omega)

/-- THE FIRST LOOP's ROUND: the octet that is written folds as the octet that was read. -/
theorem flip_bit {b : Int} (h0 : 0 ≤ b) (h1 : b ≤ 255) (h : letB b = true) : 0 ≤ bits .xor .u8 b 32 ∧ bits .xor .u8 b 32 ≤ 255 ∧ low b = low (bits .xor .u8 b 32) :=
  ⟨(xor32 h0 h1).2.1, (xor32 h0 h1).2.2, by have := flip_same h0 h1 h; simpa [sameB] using this⟩

/-- WHAT HOLDS AT THE HEAD OF ROUND k OF THE FIRST LOOP: n's octets xs in block g, the mask's in its own row, m's in block gm; nothing old has turned. -/
def Rel1 (w0 wr : World) (g gm : Nat) (b' : Option Addr) (xs mask : List Int) (n k : Nat) : Prop :=
  ∃ ms, Flipped xs ms n k ∧ Held .u8 5 wr gm ms ∧ Held .u8 5 wr g xs ∧ Own .u8 5 wr b' mask ∧ Below w0.heap.size w0 wr ∧ g ≠ gm ∧ (∀ h, b' = some ⟨h, 0, none⟩ → h ≠ gm) ∧ w0.heap.size ≤ gm

theorem rel1_start {w0 w2 : World} {g : Nat} {b' : Option Addr} {xs mask : List Int} {n : Nat} (hg : Held .u8 5 w2 g xs) (hm : Own .u8 5 w2 b' mask) (hb : Below w0.heap.size w0 w2) :
    Rel1 w0 (w2.alloc (.cells (madeCells #[.int .u8 0] n) 5)) g w2.heap.size b' xs mask n 0 := by
  refine ⟨List.replicate n 0, flipped_zero xs n, Held.made .u8 5 w2 n, hg.alloc _, hm.below ((Below.refl _ _).alloc (Nat.le_refl _) _), hb.alloc hb.size _, Nat.ne_of_lt hg.lt, ?_, hb.size⟩
  intro h e
  rcases hm with ⟨e', _⟩ | ⟨h', e', hh⟩
  · rw [e'] at e; cases e
  · rw [e'] at e
    simp at e
    subst e
    exact Nat.ne_of_lt hh.lt

theorem rel1_x {w0 wr : World} {g gm : Nat} {b' : Option Addr} {xs mask : List Int} {n k : Nat} (h : Rel1 w0 wr g gm b' xs mask n k) (hk : k < xs.length) : wr.cell? ⟨g, k, none⟩ = some (.int .u8 (xs.getD k 0)) := by
  obtain ⟨ms, _, _, h, _⟩ := h
  exact h.cell k hk
theorem rel1_m {w0 wr : World} {g gm : Nat} {b' : Option Addr} {xs mask : List Int} {n k : Nat} (h : Rel1 w0 wr g gm b' xs mask n k) (hk : k < n) : ∃ v, wr.cell? ⟨gm, k, none⟩ = some (.int .u8 v) := by
  obtain ⟨ms, f, h, _⟩ := h
  exact ⟨_, h.cell k (by rw [f.1]; exact hk)⟩
theorem rel1_f {w0 wr : World} {g gm : Nat} {b' : Option Addr} {xs mask : List Int} {n k : Nat} (h : Rel1 w0 wr g gm b' xs mask n k) : wr.frozen? ⟨gm, k, none⟩ = false := by
  obtain ⟨ms, f, h, _⟩ := h
  exact h.free k
theorem rel1_y {w0 wr : World} {g gm : Nat} {b' : Option Addr} {xs mask : List Int} {n k : Nat} (h : Rel1 w0 wr g gm b' xs mask n k) (hk : k < mask.length) : ∃ j, b' = some ⟨j, 0, none⟩ ∧ wr.cell? ⟨j, k, none⟩ = some (.int .u8 (mask.getD k 0)) := by
  obtain ⟨ms, _, _, _, h, _⟩ := h
  obtain ⟨j, e, hh⟩ := h.pos (by omega)
  exact ⟨j, e, hh.cell k hk⟩
theorem rel1_next {w0 wr : World} {g gm : Nat} {b' : Option Addr} {xs mask : List Int} {n k : Nat} (h : Rel1 w0 wr g gm b' xs mask n k) (hk : k < n) {m : Int} (h0 : 0 ≤ m) (h1 : m ≤ 255) (hl : low (xs.getD k 0) = low m) :
    Rel1 w0 (wr.setCell ⟨gm, k, none⟩ (.int .u8 m)) g gm b' xs mask n (k + 1) := by
  obtain ⟨ms, f, hm, hx, hy, hb, n1, n2, n3⟩ := h
  refine ⟨ms.set k m, flipped_set f hk h0 h1 hl, hm.store k m, hx.other n1 _, ?_, hb.setCell n3 _, n1, n2, n3⟩
  rcases hy with hy | ⟨j, e, hj⟩
  · exact .inl hy
  · exact .inr ⟨j, e, hj.other (n2 j e) _⟩

/-- WHAT HOLDS AT THE HEAD OF A ROUND OF THE SECOND LOOP: m's octets in its row, n + 1 octets in block gl. -/
def Rel2 (w0 wr : World) (am : Option Addr) (gl : Nat) (ms : List Int) (n : Nat) : Prop :=
  ∃ ls, ls.length = n + 1 ∧ Held .u8 5 wr gl ls ∧ Own .u8 5 wr am ms ∧ Below w0.heap.size w0 wr ∧ (∀ h, am = some ⟨h, 0, none⟩ → h ≠ gl) ∧ w0.heap.size ≤ gl

theorem rel2_start {w0 w2 : World} {am : Option Addr} {ms : List Int} {n : Nat} (hm : Own .u8 5 w2 am ms) (hb : Below w0.heap.size w0 w2) :
    Rel2 w0 (w2.alloc (.cells (madeCells #[.int .u8 0] (n + 1)) 5)) am w2.heap.size ms n := by
  refine ⟨List.replicate (n + 1) 0, by simp, Held.made .u8 5 w2 (n + 1), hm.below ((Below.refl _ _).alloc (Nat.le_refl _) _), hb.alloc hb.size _, ?_, hb.size⟩
  intro h e
  rcases hm with ⟨e', _⟩ | ⟨h', e', hh⟩
  · rw [e'] at e; cases e
  · rw [e'] at e
    simp at e
    subst e
    exact Nat.ne_of_lt hh.lt
theorem rel2_m {w0 wr : World} {gm gl : Nat} {ms : List Int} {n k : Nat} (h : Rel2 w0 wr (some ⟨gm, 0, none⟩) gl ms n) (hk : k < ms.length) : wr.cell? ⟨gm, k, none⟩ = some (.int .u8 (ms.getD k 0)) := by
  obtain ⟨ls, _, _, h, _⟩ := h
  obtain ⟨g, e, hh⟩ := h.pos (by omega)
  simp at e
  subst e
  exact hh.cell k hk
theorem rel2_l {w0 wr : World} {am : Option Addr} {gl : Nat} {ms : List Int} {n k : Nat} (h : Rel2 w0 wr am gl ms n) (hk : k < n + 1) : ∃ v, wr.cell? ⟨gl, k, none⟩ = some (.int .u8 v) := by
  obtain ⟨ls, e, h, _⟩ := h
  exact ⟨_, h.cell k (by rw [e]; exact hk)⟩
theorem rel2_f {w0 wr : World} {am : Option Addr} {gl : Nat} {ms : List Int} {n k : Nat} (h : Rel2 w0 wr am gl ms n) : wr.frozen? ⟨gl, k, none⟩ = false := by
  obtain ⟨ls, e, h, _⟩ := h
  exact h.free k
theorem rel2_next {w0 wr : World} {am : Option Addr} {gl : Nat} {ms : List Int} {n : Nat} (h : Rel2 w0 wr am gl ms n) (k : Nat) (v : Int) : Rel2 w0 (wr.setCell ⟨gl, k, none⟩ (.int .u8 v)) am gl ms n := by
  obtain ⟨ls, e, hl, hm, hb, n2, n3⟩ := h
  refine ⟨ls.set k v, by simpa using e, hl.store k v, ?_, hb.setCell n3 _, n2, n3⟩
  rcases hm with hm | ⟨j, e, hj⟩
  · exact .inl hm
  · exact .inr ⟨j, e, hj.other (n2 j e) _⟩
theorem rel2_below {w0 wr : World} {am : Option Addr} {gl : Nat} {ms : List Int} {n : Nat} (h : Rel2 w0 wr am gl ms n) : Below w0.heap.size w0 wr := by
  obtain ⟨_, _, _, _, h, _⟩ := h
  exact h
end Go.Proofs.Qxb6603740a
