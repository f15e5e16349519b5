/- Plates: pixelBufferLength, NewPaletted, impl.NewPaletted. -/
import Derived.Test.YtkhgobeeaiagfaaSetQ
import Derived.Deep.OwnRows
namespace Go.Proofs.Ytkhgobeeaiagfaa
open Go.RowKit
set_option linter.unusedVariables false
set_option linter.unusedSimpArgs false

theorem made_zero (n : Nat) : (madeCells #[.int .u8 0] n).toList = (List.replicate n (0 : Int)).map (Value.int .u8) := by
  apply List.ext_getElem
  · simp [madeCells]
  · intro i h1 h2
    simp [madeCells, Nat.mod_one]
theorem made_own (W : World) (base n : Nat) (hb : base ≤ W.heap.size) (hn : n ≤ 524288) : (W.alloc (.cells (madeCells #[.int .u8 0] n) 5)).ownsRow base 5 1 (.slice (some ⟨W.heap.size, 0, none⟩) n n) n ((List.replicate n (0 : Int)).map (Value.int .u8)) := by
  refine ⟨by simp, Or.inr ⟨W.heap.size, n, _, rfl, hb, heap_alloc_new _ _, Nat.le_refl _, by unfold maxLen; omega, by simp [madeCells], ?_⟩⟩
  rw [made_zero, List.take_of_length_le (by simp)]
def zeros (n : Nat) : List Int := List.replicate n 0
theorem zeros_length (n : Nat) : (zeros n).length = n := by simp [zeros]
theorem zeros_small {n : Nat} (h : n ≤ 524288) : Small (zeros n) := by unfold Small; rw [zeros_length]; omega
theorem zeros_bytes (n : Nat) : Bytes (zeros n) := by intro z hz; simp [zeros] at hz; omega


theorem mul3_any (a b : Int) (w : World) (a0 : 0 ≤ a) (a1 : a ≤ 65536) (b0 : 0 ≤ b) (b1 : b ≤ 65536) (p0 : 0 ≤ a * b) (p1 : a * b ≤ 65536) :
    Calls Try.prog 63 #[.int .i64 1, .int .i64 a, .int .i64 b] w fun e w' => e = .returned (.int .i64 (a * b)) ∧ w = w' := by
  have n1 : (a * b != a * b) = false := by simp
  go_enter Try.func63, Try.ntmps63
  go_wp2_with fail
  refine (mul64_small 1 a _ (by omega) (by omega) (by omega) (by omega) (by omega) (by omega)).mono ?_
  rintro e w1 ⟨rfl, rfl⟩
  rw [Int.one_mul]
  go_wp2_with fail
  refine (mul64_small a b _ (by omega) (by omega) (by omega) (by omega) (by omega) (by omega)).mono ?_
  rintro e w1 ⟨rfl, rfl⟩
  go_wp2
  go_ret
  exact ⟨by simp, rfl⟩
theorem pbl_any (x0 y0 x1 y1 : Int) (str : ByteArray) (w : World) (a0 : 0 ≤ x1 - x0) (a1 : x1 - x0 ≤ 65536) (b0 : 0 ≤ y1 - y0) (b1 : y1 - y0 ≤ 65536) (p0 : 0 ≤ (x1 - x0) * (y1 - y0)) (p1 : (x1 - x0) * (y1 - y0) ≤ 65536) :
    Calls Try.prog 59 #[.int .i64 1, .agg #[.int .i64 x0, .int .i64 y0, .int .i64 x1, .int .i64 y1], .string str] w fun e w' => e = .returned (.int .i64 ((x1 - x0) * (y1 - y0))) ∧ Below w.heap.size w w' := by
  have S0 := keepD4 (start4 w 82 (.int .i64 x0) (.int .i64 y0) (.int .i64 x1) (.int .i64 y1))
  go_enter Try.func59, Try.ntmps59
  go_wp2
  go_region_held3 (fun w' => w.heap.size < w'.heap.size ∧ Below w.heap.size w w' ∧ w'.cell? ⟨w.heap.size, 0, none⟩ = some (.int .i64 x0) ∧ w'.cell? ⟨w.heap.size, 1, none⟩ = some (.int .i64 y0) ∧ w'.cell? ⟨w.heap.size, 2, none⟩ = some (.int .i64 x1) ∧ w'.cell? ⟨w.heap.size, 3, none⟩ = some (.int .i64 y1))
    (first | with_reducible exact S3 | with_reducible exact S2 | with_reducible exact S1 | with_reducible exact S0)
    (first | (go_at_call 57; refine (dx_any x0 y0 x1 y1 _ (by omega) (by omega)).mono ?_; rintro e w1 ⟨rfl, hb1⟩; have S1 := keep4 hb1 S0) | (go_at_call 64; refine (dy_any x0 y0 x1 y1 _ (by omega) (by omega)).mono ?_; rintro e w2 ⟨rfl, hb2⟩; have S2 := keep4 hb2 S1) | (go_at_call 63; refine (mul3_any (x1 - x0) (y1 - y0) _ a0 a1 b0 b1 p0 p1).mono ?_; rintro e w3 ⟨rfl, rfl⟩))
  go_wp2
  go_ret
  exact ⟨by simp, S2.2.1⟩
/-- What NewPaletted hands back. -/
def NewBack (zs : List Int) (vp : Value) (s x0 y0 x1 y1 : Int) (w : World) (e : Ending) (w' : World) : Prop :=
  ∃ (g : Nat) (A : Option Addr) (c : Nat), e = .returned (.pointer (some ⟨g, 0, none⟩)) ∧ w'.heap[g]? = some (.cells #[.slice A zs.length c, .int .i64 s, .int .i64 x0, .int .i64 y0, .int .i64 x1, .int .i64 y1, vp] 94 (0, 0)) ∧ w'.ownsRow w.heap.size 5 1 (.slice A zs.length c) zs.length (zs.map (Value.int .u8)) ∧ Below w.heap.size w w'
set_option maxRecDepth 100000 in
set_option maxHeartbeats 2000000 in
theorem newK_any (x0 y0 x1 y1 : Int) (n : Nat) (B : Option Addr) (np k : Nat) (w : World) (a0 : 0 ≤ x1 - x0) (a1 : x1 - x0 ≤ 65536) (b0 : 0 ≤ y1 - y0) (b1 : y1 - y0 ≤ 65536) (p0 : 0 ≤ (x1 - x0) * (y1 - y0)) (p1 : (x1 - x0) * (y1 - y0) ≤ 65536) (HN : Hid ((x1 - x0) * (y1 - y0) = n)) (hn : n ≤ 524288) :
    Calls Try.prog 50 #[.agg #[.int .i64 x0, .int .i64 y0, .int .i64 x1, .int .i64 y1], .slice B np k] w (NewBack (zeros n) (.slice B np k) (x1 - x0) x0 y0 x1 y1 w) := by
  have hmk := run_make_row' (P := Try.prog) 24 5 (.int .u8 0) 1 Try.underlying24 info5 rfl .i64 .i64 n (by omega) (by omega)
  have S0 := keepD4 (start4 w 82 (.int .i64 x0) (.int .i64 y0) (.int .i64 x1) (.int .i64 y1))
  have HW1 : Hid (IntKind.i64.wrap (1 * (x1 - x0)) = x1 - x0) := by unfold Hid; rw [Int.one_mul]; exact IntWalk.i64_in _ (by omega)
  have HW2 : Hid (IntKind.i64.wrap (x1 - x0) = x1 - x0) := IntWalk.i64_in _ (by omega)
  go_enter Try.func50, Try.ntmps50
  go_wp2
  go_region_held3 (fun w' => w.heap.size < w'.heap.size ∧ Below w.heap.size w w' ∧ w'.cell? ⟨w.heap.size, 0, none⟩ = some (.int .i64 x0) ∧ w'.cell? ⟨w.heap.size, 1, none⟩ = some (.int .i64 y0) ∧ w'.cell? ⟨w.heap.size, 2, none⟩ = some (.int .i64 x1) ∧ w'.cell? ⟨w.heap.size, 3, none⟩ = some (.int .i64 y1))
    (first | with_reducible exact S1 | with_reducible exact S0 | with_reducible exact S2 | with_reducible exact S3 | with_reducible exact S4 | with_reducible exact keepA4 S4 | with_reducible exact keepA4 S3 | with_reducible exact keepA4 S2)
    (first | (go_at_call 59; refine (pbl_any x0 y0 x1 y1 _ _ a0 a1 b0 b1 p0 p1).mono ?_; rintro e w1 ⟨rfl, hb1⟩; rw [HN.out]; have S1 := keep4 hb1 S0; have S2 := keepA4 (o := (.cells (madeCells #[.int .u8 0] n) 5)) S1) | (go_at_call 57; refine (dx_any x0 y0 x1 y1 _ (by omega) (by omega)).mono ?_; rintro e w2 ⟨rfl, hb2⟩; (first | have S3 := keep4 hb2 S2 | (have S3 := keep4 hb2 S1; have S4 := keepA4 (o := (.cells (madeCells #[.int .u8 0] n) 5)) S3))))
  · rename_i hS
    go_wp2
    go_ret
    refine ⟨w2.heap.size, some ⟨w1.heap.size, 0, none⟩, n, by simp, ?_, ?_, hS.2.1⟩
    · rw [zeros_length]
      first | exact heap_alloc_new _ _ | (rw [HW1.out]; exact heap_alloc_new _ _) | (rw [HW2.out]; exact heap_alloc_new _ _)
    · rw [zeros_length]
      exact (ownsRow_below (made_own w1 w.heap.size n (by have := S1.1; omega) hn) hb2).alloc _
  · rename_i hS
    go_wp2
    go_ret
    refine ⟨w2.heap.size + 1, some ⟨w2.heap.size, 0, none⟩, n, by simp, ?_, ?_, hS.2.1⟩
    · rw [zeros_length]
      first | exact heap_alloc2_new _ _ _ | (rw [HW1.out]; exact heap_alloc2_new _ _ _) | (rw [HW2.out]; exact heap_alloc2_new _ _ _)
    · rw [zeros_length]
      exact (made_own w2 w.heap.size n (by have := S3.1; omega) hn).alloc _


set_option maxRecDepth 100000 in
set_option maxHeartbeats 2000000 in
theorem implNew_any (x0 y0 x1 y1 : Int) (n : Nat) (B : Option Addr) (k : Nat) (ps : List (Int × Int × Int × Int)) (w : World) (pr : Hid (PReads w B ps)) (pl : (ps.length : Int) ≤ 2097152) (a0 : 0 ≤ x1 - x0) (a1 : x1 - x0 ≤ 65536) (b0 : 0 ≤ y1 - y0) (b1 : y1 - y0 ≤ 65536) (p0 : 0 ≤ (x1 - x0) * (y1 - y0)) (p1 : (x1 - x0) * (y1 - y0) ≤ 65536) (HN : Hid ((x1 - x0) * (y1 - y0) = n)) (hn : n ≤ 524288) :
    Calls Try.prog 30 #[.agg #[.int .i64 x0, .int .i64 y0, .int .i64 x1, .int .i64 y1], .slice B ps.length k] w (PlateData (zeros n) ps (x1 - x0) x0 y0 x1 y1 w) := by
  have hB : Below w.heap.size w ((w.alloc (.cells #[.int .i64 x0, .int .i64 y0, .int .i64 x1, .int .i64 y1] 23)).alloc (.cells #[.int .i64 0, .int .i64 0, .int .i64 0, .int .i64 0, .int .i64 0, .slice none 0 0, .slice none 0 0] 27)) := ((Below.refl _ _).alloc (Nat.le_refl _) _).alloc (by simp) _
  have R0 : ((w.alloc (.cells #[.int .i64 x0, .int .i64 y0, .int .i64 x1, .int .i64 y1] 23)).alloc (.cells #[.int .i64 0, .int .i64 0, .int .i64 0, .int .i64 0, .int .i64 0, .slice none 0 0, .slice none 0 0] 27)).cell? ⟨w.heap.size, 0, none⟩ = some (.int .i64 x0) := by first | (simp; done) | go_simp
  have R1 : ((w.alloc (.cells #[.int .i64 x0, .int .i64 y0, .int .i64 x1, .int .i64 y1] 23)).alloc (.cells #[.int .i64 0, .int .i64 0, .int .i64 0, .int .i64 0, .int .i64 0, .slice none 0 0, .slice none 0 0] 27)).cell? ⟨w.heap.size, 1, none⟩ = some (.int .i64 y0) := by first | (simp; done) | go_simp
  have R2 : ((w.alloc (.cells #[.int .i64 x0, .int .i64 y0, .int .i64 x1, .int .i64 y1] 23)).alloc (.cells #[.int .i64 0, .int .i64 0, .int .i64 0, .int .i64 0, .int .i64 0, .slice none 0 0, .slice none 0 0] 27)).cell? ⟨w.heap.size, 2, none⟩ = some (.int .i64 x1) := by first | (simp; done) | go_simp
  have R3 : ((w.alloc (.cells #[.int .i64 x0, .int .i64 y0, .int .i64 x1, .int .i64 y1] 23)).alloc (.cells #[.int .i64 0, .int .i64 0, .int .i64 0, .int .i64 0, .int .i64 0, .slice none 0 0, .slice none 0 0] 27)).cell? ⟨w.heap.size, 3, none⟩ = some (.int .i64 y1) := by first | (simp; done) | go_simp
  have HZ : Hid (((w.alloc (.cells #[.int .i64 x0, .int .i64 y0, .int .i64 x1, .int .i64 y1] 23)).alloc (.cells #[.int .i64 0, .int .i64 0, .int .i64 0, .int .i64 0, .int .i64 0, .slice none 0 0, .slice none 0 0] 27)).heap[w.heap.size + 1]? = some (.cells #[.int .i64 0, .int .i64 0, .int .i64 0, .int .i64 0, .int .i64 0, .slice none 0 0, .slice none 0 0] 27 (0, 0))) := by
    have h := heap_alloc_new (w.alloc (.cells #[.int .i64 x0, .int .i64 y0, .int .i64 x1, .int .i64 y1] 23)) (.cells #[.int .i64 0, .int .i64 0, .int .i64 0, .int .i64 0, .int .i64 0, .slice none 0 0, .slice none 0 0] 27)
    rw [show (w.alloc (.cells #[.int .i64 x0, .int .i64 y0, .int .i64 x1, .int .i64 y1] 23)).heap.size = w.heap.size + 1 by simp] at h
    exact h
  have HP := Lib.hid (pr.out.below hB)
  have hbo : w.heap.size ≤ w.heap.size + 1 := by omega
  have hl' : Small (zeros n) := zeros_small hn
  go_enter Try.func30, Try.ntmps30
  go_wp2_with fail
  generalize (w.alloc (.cells #[.int .i64 x0, .int .i64 y0, .int .i64 x1, .int .i64 y1] 23)).alloc (.cells #[.int .i64 0, .int .i64 0, .int .i64 0, .int .i64 0, .int .i64 0, .slice none 0 0, .slice none 0 0] 27) = W0 at *
  generalize w.heap.size + 1 = bo at *
  refine (rectangle_any x0 y0 x1 y1 _).mono ?_
  rintro e w1 ⟨rfl, hb1⟩
  replace R0 := cell_kept R0 hb1
  replace R1 := cell_kept R1 hb1
  replace R2 := cell_kept R2 hb1
  replace R3 := cell_kept R3 hb1
  replace HZ := Lib.hid (heap_kept HZ.out hb1)
  replace HP := Lib.hid (HP.out.below hb1)
  replace hB := hB.trans (hb1.mono hB.size)
  clear hb1
  go_wp2_with fail
  refine (paletteOf_any B k ps _ HP.out pl).mono ?_
  rintro e w2 ⟨B', k', rfl, hi, hb2⟩
  have HI := Lib.hid hi
  clear hi
  replace R0 := cell_kept R0 hb2
  replace R1 := cell_kept R1 hb2
  replace R2 := cell_kept R2 hb2
  replace R3 := cell_kept R3 hb2
  replace HZ := Lib.hid (heap_kept HZ.out hb2)
  replace HP := Lib.hid (HP.out.below hb2)
  replace hB := hB.trans (hb2.mono hB.size)
  clear hb2
  clear HP
  go_wp2_with fail
  refine (newK_any x0 y0 x1 y1 n B' ps.length k' _ a0 a1 b0 b1 p0 p1 HN hn).mono ?_
  rintro e w3 ⟨g, A', c', rfl, hg, ho, hb3⟩
  have HG := Lib.hid hg
  have HRr := Lib.hid (Reads.of_own ho)
  have HNr := Lib.hid (own_nil ho)
  clear hg ho
  replace R0 := cell_kept R0 hb3
  replace R1 := cell_kept R1 hb3
  replace R2 := cell_kept R2 hb3
  replace R3 := cell_kept R3 hb3
  replace HZ := Lib.hid (heap_kept HZ.out hb3)
  replace HI := Lib.hid (ownsRow_below HI.out hb3)
  replace hB := hB.trans (hb3.mono hB.size)
  clear hb3
  have HIr := Lib.hid (IReads.of_own HI.out)
  have hz3 : w.heap.size ≤ w3.heap.size := hB.size
  go_wp2_with fail
  refine (of_any g x0 y0 x1 y1 (x1 - x0) _ c' (zeros n) B' k' ps _ HG.out HRr hl' HNr HIr pl).mono ?_
  rintro e w4 ⟨E1, f1, E2, f2, rfl, hw1, hw2, hb4⟩
  replace R0 := cell_kept R0 hb4
  replace R1 := cell_kept R1 hb4
  replace R2 := cell_kept R2 hb4
  replace R3 := cell_kept R3 hb4
  replace HZ := Lib.hid (heap_kept HZ.out hb4)
  replace hB := hB.trans (hb4.mono hB.size)
  clear hb4
  have zc0 := row_cell (i := 0) (v := .int .i64 0) HZ.out rfl
  have zc1 := row_cell (i := 1) (v := .int .i64 0) HZ.out rfl
  have zc2 := row_cell (i := 2) (v := .int .i64 0) HZ.out rfl
  have zc3 := row_cell (i := 3) (v := .int .i64 0) HZ.out rfl
  have zc4 := row_cell (i := 4) (v := .int .i64 0) HZ.out rfl
  have zc5 := row_cell (i := 5) (v := .slice none 0 0) HZ.out rfl
  have zc6 := row_cell (i := 6) (v := .slice none 0 0) HZ.out rfl
  have zf0 := frozen_of_row _ _ 0 _ _ HZ.out
  have zf1 := frozen_of_row _ _ 1 _ _ HZ.out
  have zf2 := frozen_of_row _ _ 2 _ _ HZ.out
  have zf3 := frozen_of_row _ _ 3 _ _ HZ.out
  have zf4 := frozen_of_row _ _ 4 _ _ HZ.out
  have zf5 := frozen_of_row _ _ 5 _ _ HZ.out
  have zf6 := frozen_of_row _ _ 6 _ _ HZ.out
  go_wp2_with fail
  clear zc0 zf0 zc1 zf1 zc2 zf2 zc3 zf3 zc4 zf4 zc5 zf5 zc6 zf6
  have HF : Hid ((((((((w4.setCell ⟨bo, 0, none⟩ (.int .i64 x0)).setCell ⟨bo, 1, none⟩ (.int .i64 y0)).setCell ⟨bo, 2, none⟩ (.int .i64 x1)).setCell ⟨bo, 3, none⟩ (.int .i64 y1)).setCell ⟨bo, 4, none⟩ (.int .i64 (x1 - x0))).setCell ⟨bo, 5, none⟩ (.slice E1 (zeros n).length f1)).setCell ⟨bo, 6, none⟩ (.slice E2 ps.length f2)).heap[bo]? = some (.cells #[.int .i64 x0, .int .i64 y0, .int .i64 x1, .int .i64 y1, .int .i64 (x1 - x0), .slice E1 (zeros n).length f1, .slice E2 ps.length f2] 27 (0, 0))) := sets7 HZ.out
  have HBx : Below w.heap.size w (((((((w4.setCell ⟨bo, 0, none⟩ (.int .i64 x0)).setCell ⟨bo, 1, none⟩ (.int .i64 y0)).setCell ⟨bo, 2, none⟩ (.int .i64 x1)).setCell ⟨bo, 3, none⟩ (.int .i64 y1)).setCell ⟨bo, 4, none⟩ (.int .i64 (x1 - x0))).setCell ⟨bo, 5, none⟩ (.slice E1 (zeros n).length f1)).setCell ⟨bo, 6, none⟩ (.slice E2 ps.length f2)) := sets7_below hB hbo
  have HW1 : Hid ((((((((w4.setCell ⟨bo, 0, none⟩ (.int .i64 x0)).setCell ⟨bo, 1, none⟩ (.int .i64 y0)).setCell ⟨bo, 2, none⟩ (.int .i64 x1)).setCell ⟨bo, 3, none⟩ (.int .i64 y1)).setCell ⟨bo, 4, none⟩ (.int .i64 (x1 - x0))).setCell ⟨bo, 5, none⟩ (.slice E1 (zeros n).length f1)).setCell ⟨bo, 6, none⟩ (.slice E2 ps.length f2)).ownsRow w.heap.size 5 1 (.slice E1 (zeros n).length f1) (zeros n).length ((zeros n).map (Value.int .u8))) := sets7_own (ownsRow_base hw1 hz3) HZ.out (by decide)
  have HW2 : Hid (POwn (((((((w4.setCell ⟨bo, 0, none⟩ (.int .i64 x0)).setCell ⟨bo, 1, none⟩ (.int .i64 y0)).setCell ⟨bo, 2, none⟩ (.int .i64 x1)).setCell ⟨bo, 3, none⟩ (.int .i64 y1)).setCell ⟨bo, 4, none⟩ (.int .i64 (x1 - x0))).setCell ⟨bo, 5, none⟩ (.slice E1 (zeros n).length f1)).setCell ⟨bo, 6, none⟩ (.slice E2 ps.length f2)) w.heap.size E2 f2 ps) := sets7_own (ownsRow_base hw2 hz3) HZ.out (by decide)
  generalize (((((((w4.setCell ⟨bo, 0, none⟩ (.int .i64 x0)).setCell ⟨bo, 1, none⟩ (.int .i64 y0)).setCell ⟨bo, 2, none⟩ (.int .i64 x1)).setCell ⟨bo, 3, none⟩ (.int .i64 y1)).setCell ⟨bo, 4, none⟩ (.int .i64 (x1 - x0))).setCell ⟨bo, 5, none⟩ (.slice E1 (zeros n).length f1)).setCell ⟨bo, 6, none⟩ (.slice E2 ps.length f2)) = wz at *
  clear hw1 hw2
  have r0 := row_cell (i := 0) (v := .int .i64 x0) HF.out rfl
  have r1 := row_cell (i := 1) (v := .int .i64 y0) HF.out rfl
  have r2 := row_cell (i := 2) (v := .int .i64 x1) HF.out rfl
  have r3 := row_cell (i := 3) (v := .int .i64 y1) HF.out rfl
  have r4 := row_cell (i := 4) (v := .int .i64 (x1 - x0)) HF.out rfl
  have r5 := row_cell (i := 5) (v := .slice E1 (zeros n).length f1) HF.out rfl
  have r6 := row_cell (i := 6) (v := .slice E2 ps.length f2) HF.out rfl
  go_wp2
  exact bodyPost_ret (v := .agg #[.int .i64 x0, .int .i64 y0, .int .i64 x1, .int .i64 y1, .int .i64 (x1 - x0), .slice E1 (zeros n).length f1, .slice E2 ps.length f2]) (by simp [results, Try.results30, go_sem, r0, r1, r2, r3, r4, r5, r6]) rfl ⟨E1, f1, E2, f2, rfl, HW1.out, HW2.out, HBx⟩

theorem fits_new {x0 y0 x1 y1 : Int} {n : Nat} (h : Fair x0 y0 x1 y1) (hn : (x1 - x0) * (y1 - y0) = n) : Fits x0 y0 x1 y1 (x1 - x0) 1 n := by
  obtain ⟨hN, g1, g2, g3, g4, g5⟩ := h
  refine ⟨⟨hN, g1, g2, g3, g4, g5⟩, ⟨by omega, by omega⟩, ?_⟩
  by_cases hE : Empt x0 y0 x1 y1
  · exact Or.inl hE
  · have hE' : x0 < x1 ∧ y0 < y1 := by unfold Empt at hE; omega
    have e0 : 0 ≤ (y1 - 1 - y0) * (x1 - x0) := Int.mul_nonneg (by omega) (by omega)
    have e1 : (y1 - 1 - y0) * (x1 - x0) = (x1 - x0) * (y1 - y0) - (x1 - x0) := by
      rw [show y1 - 1 - y0 = (y1 - y0) - 1 by omega, Int.sub_mul, Int.one_mul, Int.mul_comm]
    exact Or.inr ⟨e0, by omega⟩

end Go.Proofs.Ytkhgobeeaiagfaa
