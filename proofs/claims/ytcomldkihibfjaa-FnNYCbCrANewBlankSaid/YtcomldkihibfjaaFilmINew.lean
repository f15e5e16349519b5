/- Films: impl.NewNYCbCrA. -/
import Derived.Test.YtcomldkihibfjaaFilmNew
import Derived.Test.YtcomldkihibfjaaFilmOf
namespace Go.Proofs.Ytcomldkihibfjaa
open Go.RowKit
set_option linter.unusedVariables false
set_option linter.unusedSimpArgs false

theorem newK_any (x0 y0 x1 y1 rt : Int) (wd ht cw ch : Nat) (HW : Hid (x1 - x0 = wd)) (HH : Hid (y1 - y0 = ht)) (HC : Hid (cwOf rt x0 x1 = cw)) (HD : Hid (chOf rt y0 y1 = ch)) (bw : (wd : Int) ≤ 65536) (bh : (ht : Int) ≤ 65536) (bcw : (cw : Int) ≤ 65537) (bch : (ch : Int) ≤ 65537) (g1 : wd * ht ≤ 65536) (g2 : cw * ch ≤ 262144) (g3 : 0 < wd * ht → 0 < cw * ch) (w : World) (n1 : 0 ≤ x0) (n2 : 0 ≤ y0) (n3 : x0 ≤ x1) (n4 : y0 ≤ y1) (n5 : x1 ≤ 1099511627776) (n6 : y1 ≤ 1099511627776) (r0 : 0 ≤ rt) (r5 : rt ≤ 5) :
    Calls Try.prog 32 #[.agg #[.int .i64 x0, .int .i64 y0, .int .i64 x1, .int .i64 y1], .int .i64 rt] w (NewBack (zeros (wd * ht)) (zeros (cw * ch)) (zeros (cw * ch)) (zeros (wd * ht)) rt wd cw wd x0 y0 x1 y1 w) := by
  have e1 : (wd : Int) * (ht : Int) = ((wd * ht : Nat) : Int) := (Int.natCast_mul _ _).symm
  have e2 : (cw : Int) * (ch : Int) = ((cw * ch : Nat) : Int) := (Int.natCast_mul _ _).symm
  have e3 : 2 * (wd : Int) * (ht : Int) = 2 * ((wd * ht : Nat) : Int) := by rw [Int.mul_assoc, e1]
  have e4 : 2 * (cw : Int) * (ch : Int) = 2 * ((cw * ch : Nat) : Int) := by rw [Int.mul_assoc, e2]
  generalize wd * ht = a at *
  generalize cw * ch = c at *
  rcases Nat.eq_zero_or_pos a with ha | ha
  · subst ha
    rcases Nat.eq_zero_or_pos c with hc | hc
    · subst hc
      exact newK_none x0 y0 x1 y1 rt wd ht cw ch HW HH HC HD bw bh bcw bch e1 e3 e2 e4 w n1 n2 n3 n4 n5 n6 r0 r5
    · exact newK_noY x0 y0 x1 y1 rt wd ht cw ch c (2 * c) HW HH HC HD bw bh bcw bch e1 e3 e2 e4 (by omega) (by omega) hc w n1 n2 n3 n4 n5 n6 r0 r5
  · exact newK_full x0 y0 x1 y1 rt wd ht cw ch a c (2 * a + 2 * c) (a + c) (a + 2 * c) HW HH HC HD bw bh bcw bch e1 e3 e2 e4 (by omega) (by omega) (by omega) (by omega) (by omega) ha (g3 ha) w n1 n2 n3 n4 n5 n6 r0 r5

set_option maxRecDepth 100000 in
set_option maxHeartbeats 2000000 in
theorem implNew_any (x0 y0 x1 y1 rt : Int) (wd ht cw ch : Nat) (HW : Hid (x1 - x0 = wd)) (HH : Hid (y1 - y0 = ht)) (HC : Hid (cwOf rt x0 x1 = cw)) (HD : Hid (chOf rt y0 y1 = ch)) (bw : (wd : Int) ≤ 65536) (bh : (ht : Int) ≤ 65536) (bcw : (cw : Int) ≤ 65537) (bch : (ch : Int) ≤ 65537) (g1 : wd * ht ≤ 65536) (g2 : cw * ch ≤ 262144) (g3 : 0 < wd * ht → 0 < cw * ch) (w : World) (n1 : 0 ≤ x0) (n2 : 0 ≤ y0) (n3 : x0 ≤ x1) (n4 : y0 ≤ y1) (n5 : x1 ≤ 1099511627776) (n6 : y1 ≤ 1099511627776) (r0 : 0 ≤ rt) (r5 : rt ≤ 5) :
    Calls Try.prog 13 #[.agg #[.int .i64 x0, .int .i64 y0, .int .i64 x1, .int .i64 y1], .int .i64 rt] w (FilmData (zeros (wd * ht)) (zeros (cw * ch)) (zeros (cw * ch)) (zeros (wd * ht)) rt wd cw wd x0 y0 x1 y1 w) := by
  have hB : Below w.heap.size w ((w.alloc (.cells #[.int .i64 x0, .int .i64 y0, .int .i64 x1, .int .i64 y1] 23)).alloc (.cells #[.int .i64 0, .int .i64 0, .int .i64 0, .int .i64 0, .int .i64 0, .int .i64 0, .int .i64 0, .int .i64 0, .slice none 0 0, .slice none 0 0, .slice none 0 0, .slice none 0 0] 30)) := ((Below.refl _ _).alloc (Nat.le_refl _) _).alloc (by simp) _
  have R0 : ((w.alloc (.cells #[.int .i64 x0, .int .i64 y0, .int .i64 x1, .int .i64 y1] 23)).alloc (.cells #[.int .i64 0, .int .i64 0, .int .i64 0, .int .i64 0, .int .i64 0, .int .i64 0, .int .i64 0, .int .i64 0, .slice none 0 0, .slice none 0 0, .slice none 0 0, .slice none 0 0] 30)).cell? ⟨w.heap.size, 0, none⟩ = some (.int .i64 x0) := by first | (simp; done) | go_simp
  have R1 : ((w.alloc (.cells #[.int .i64 x0, .int .i64 y0, .int .i64 x1, .int .i64 y1] 23)).alloc (.cells #[.int .i64 0, .int .i64 0, .int .i64 0, .int .i64 0, .int .i64 0, .int .i64 0, .int .i64 0, .int .i64 0, .slice none 0 0, .slice none 0 0, .slice none 0 0, .slice none 0 0] 30)).cell? ⟨w.heap.size, 1, none⟩ = some (.int .i64 y0) := by first | (simp; done) | go_simp
  have R2 : ((w.alloc (.cells #[.int .i64 x0, .int .i64 y0, .int .i64 x1, .int .i64 y1] 23)).alloc (.cells #[.int .i64 0, .int .i64 0, .int .i64 0, .int .i64 0, .int .i64 0, .int .i64 0, .int .i64 0, .int .i64 0, .slice none 0 0, .slice none 0 0, .slice none 0 0, .slice none 0 0] 30)).cell? ⟨w.heap.size, 2, none⟩ = some (.int .i64 x1) := by first | (simp; done) | go_simp
  have R3 : ((w.alloc (.cells #[.int .i64 x0, .int .i64 y0, .int .i64 x1, .int .i64 y1] 23)).alloc (.cells #[.int .i64 0, .int .i64 0, .int .i64 0, .int .i64 0, .int .i64 0, .int .i64 0, .int .i64 0, .int .i64 0, .slice none 0 0, .slice none 0 0, .slice none 0 0, .slice none 0 0] 30)).cell? ⟨w.heap.size, 3, none⟩ = some (.int .i64 y1) := by first | (simp; done) | go_simp
  have HZ : Hid (((w.alloc (.cells #[.int .i64 x0, .int .i64 y0, .int .i64 x1, .int .i64 y1] 23)).alloc (.cells #[.int .i64 0, .int .i64 0, .int .i64 0, .int .i64 0, .int .i64 0, .int .i64 0, .int .i64 0, .int .i64 0, .slice none 0 0, .slice none 0 0, .slice none 0 0, .slice none 0 0] 30)).heap[w.heap.size + 1]? = some (.cells #[.int .i64 0, .int .i64 0, .int .i64 0, .int .i64 0, .int .i64 0, .int .i64 0, .int .i64 0, .int .i64 0, .slice none 0 0, .slice none 0 0, .slice none 0 0, .slice none 0 0] 30 (0, 0))) := by
    have h := heap_alloc_new (w.alloc (.cells #[.int .i64 x0, .int .i64 y0, .int .i64 x1, .int .i64 y1] 23)) (.cells #[.int .i64 0, .int .i64 0, .int .i64 0, .int .i64 0, .int .i64 0, .int .i64 0, .int .i64 0, .int .i64 0, .slice none 0 0, .slice none 0 0, .slice none 0 0, .slice none 0 0] 30)
    have e : (w.alloc (.cells #[.int .i64 x0, .int .i64 y0, .int .i64 x1, .int .i64 y1] 23)).heap.size = w.heap.size + 1 := by simp
    rw [e] at h
    exact h
  have hbo : w.heap.size ≤ w.heap.size + 1 := by omega
  go_enter Try.func13, Try.ntmps13
  go_wp2_with fail
  generalize (w.alloc (.cells #[.int .i64 x0, .int .i64 y0, .int .i64 x1, .int .i64 y1] 23)).alloc (.cells #[.int .i64 0, .int .i64 0, .int .i64 0, .int .i64 0, .int .i64 0, .int .i64 0, .int .i64 0, .int .i64 0, .slice none 0 0, .slice none 0 0, .slice none 0 0, .slice none 0 0] 30) = W0 at *
  generalize w.heap.size + 1 = bo at *
  refine (rectangle_any x0 y0 x1 y1 _).mono ?_
  rintro e w1 ⟨rfl, hb1⟩
  replace R0 := cell_kept R0 hb1
  replace R1 := cell_kept R1 hb1
  replace R2 := cell_kept R2 hb1
  replace R3 := cell_kept R3 hb1
  replace HZ := Lib.hid (heap_kept HZ.out hb1)
  replace hB := hB.trans (hb1.mono hB.size)
  clear hb1
  go_wp2_with fail
  refine (ratioOf_any rt _).mono ?_
  rintro e w2 ⟨rfl, hb2⟩
  replace R0 := cell_kept R0 hb2
  replace R1 := cell_kept R1 hb2
  replace R2 := cell_kept R2 hb2
  replace R3 := cell_kept R3 hb2
  replace HZ := Lib.hid (heap_kept HZ.out hb2)
  replace hB := hB.trans (hb2.mono hB.size)
  clear hb2
  go_wp2_with fail
  refine (newK_any x0 y0 x1 y1 rt wd ht cw ch HW HH HC HD bw bh bcw bch g1 g2 g3 _ n1 n2 n3 n4 n5 n6 r0 r5).mono ?_
  rintro e w3 ⟨g, A1, A2, A3, A4, c1, c2, c3, c4, rfl, hg, q1, k1, q2, k2, q3, k3, q4, k4, hb3⟩
  have HG := Lib.hid hg
  have HR1 := Lib.hid q1
  have HN1 := Lib.hid k1
  have HR2 := Lib.hid q2
  have HN2 := Lib.hid k2
  have HR3 := Lib.hid q3
  have HN3 := Lib.hid k3
  have HR4 := Lib.hid q4
  have HN4 := Lib.hid k4
  clear hg q1 q2 q3 q4 k1 k2 k3 k4
  replace R0 := cell_kept R0 hb3
  replace R1 := cell_kept R1 hb3
  replace R2 := cell_kept R2 hb3
  replace R3 := cell_kept R3 hb3
  replace HZ := Lib.hid (heap_kept HZ.out hb3)
  replace hB := hB.trans (hb3.mono hB.size)
  clear hb3
  obtain ⟨sa, sc⟩ : Small (zeros (wd * ht)) ∧ Small (zeros (cw * ch)) := ⟨zeros_small (by omega), zeros_small (by omega)⟩
  have hz3 : w.heap.size ≤ w3.heap.size := hB.size
  generalize zeros (wd * ht) = z1 at *
  generalize zeros (cw * ch) = z2 at *
  clear g1 g2 g3
  go_wp2_with fail
  refine (of_any g x0 y0 x1 y1 rt wd cw wd A1 A2 A3 A4 c1 c2 c3 c4 z1 z2 z2 z1 _ HG.out HR1 sa HN1 HR2 sc HN2 HR3 sc HN3 HR4 sa HN4).mono ?_
  rintro e w4 ⟨E1, E2, E3, E4, f1, f2, f3, f4, rfl, hw1, hw2, hw3, hw4, hb4⟩
  replace R0 := cell_kept R0 hb4
  replace R1 := cell_kept R1 hb4
  replace R2 := cell_kept R2 hb4
  replace R3 := cell_kept R3 hb4
  replace HZ := Lib.hid (heap_kept HZ.out hb4)
  replace hB := hB.trans (hb4.mono hB.size)
  clear hb4
  have zc0 := row_cell (i := 0) (v := .int .i64 0) HZ.out rfl
  have zc1 := row_cell (i := 1) (v := .int .i64 0) HZ.out rfl
  have zc2 := row_cell (i := 2) (v := .int .i64 0) HZ.out rfl
  have zc3 := row_cell (i := 3) (v := .int .i64 0) HZ.out rfl
  have zc4 := row_cell (i := 4) (v := .int .i64 0) HZ.out rfl
  have zc5 := row_cell (i := 5) (v := .int .i64 0) HZ.out rfl
  have zc6 := row_cell (i := 6) (v := .int .i64 0) HZ.out rfl
  have zc7 := row_cell (i := 7) (v := .int .i64 0) HZ.out rfl
  have zc8 := row_cell (i := 8) (v := .slice none 0 0) HZ.out rfl
  have zc9 := row_cell (i := 9) (v := .slice none 0 0) HZ.out rfl
  have zc10 := row_cell (i := 10) (v := .slice none 0 0) HZ.out rfl
  have zc11 := row_cell (i := 11) (v := .slice none 0 0) HZ.out rfl
  have zf0 := frozen_of_row _ _ 0 _ _ HZ.out
  have zf1 := frozen_of_row _ _ 1 _ _ HZ.out
  have zf2 := frozen_of_row _ _ 2 _ _ HZ.out
  have zf3 := frozen_of_row _ _ 3 _ _ HZ.out
  have zf4 := frozen_of_row _ _ 4 _ _ HZ.out
  have zf5 := frozen_of_row _ _ 5 _ _ HZ.out
  have zf6 := frozen_of_row _ _ 6 _ _ HZ.out
  have zf7 := frozen_of_row _ _ 7 _ _ HZ.out
  have zf8 := frozen_of_row _ _ 8 _ _ HZ.out
  have zf9 := frozen_of_row _ _ 9 _ _ HZ.out
  have zf10 := frozen_of_row _ _ 10 _ _ HZ.out
  have zf11 := frozen_of_row _ _ 11 _ _ HZ.out
  go_wp2_with fail
  clear zc0 zf0 zc1 zf1 zc2 zf2 zc3 zf3 zc4 zf4 zc5 zf5 zc6 zf6 zc7 zf7 zc8 zf8 zc9 zf9 zc10 zf10 zc11 zf11
  have HF : Hid (((((((((((((w4.setCell ⟨bo, 0, none⟩ (.int .i64 x0)).setCell ⟨bo, 1, none⟩ (.int .i64 y0)).setCell ⟨bo, 2, none⟩ (.int .i64 x1)).setCell ⟨bo, 3, none⟩ (.int .i64 y1)).setCell ⟨bo, 4, none⟩ (.int .i64 rt)).setCell ⟨bo, 5, none⟩ (.int .i64 wd)).setCell ⟨bo, 6, none⟩ (.int .i64 cw)).setCell ⟨bo, 7, none⟩ (.int .i64 wd)).setCell ⟨bo, 8, none⟩ (.slice E1 z1.length f1)).setCell ⟨bo, 9, none⟩ (.slice E2 z2.length f2)).setCell ⟨bo, 10, none⟩ (.slice E3 z2.length f3)).setCell ⟨bo, 11, none⟩ (.slice E4 z1.length f4)).heap[bo]? = some (.cells #[.int .i64 x0, .int .i64 y0, .int .i64 x1, .int .i64 y1, .int .i64 rt, .int .i64 wd, .int .i64 cw, .int .i64 wd, .slice E1 z1.length f1, .slice E2 z2.length f2, .slice E3 z2.length f3, .slice E4 z1.length f4] 30 (0, 0))) := sets12 HZ.out
  have HBx : Below w.heap.size w ((((((((((((w4.setCell ⟨bo, 0, none⟩ (.int .i64 x0)).setCell ⟨bo, 1, none⟩ (.int .i64 y0)).setCell ⟨bo, 2, none⟩ (.int .i64 x1)).setCell ⟨bo, 3, none⟩ (.int .i64 y1)).setCell ⟨bo, 4, none⟩ (.int .i64 rt)).setCell ⟨bo, 5, none⟩ (.int .i64 wd)).setCell ⟨bo, 6, none⟩ (.int .i64 cw)).setCell ⟨bo, 7, none⟩ (.int .i64 wd)).setCell ⟨bo, 8, none⟩ (.slice E1 z1.length f1)).setCell ⟨bo, 9, none⟩ (.slice E2 z2.length f2)).setCell ⟨bo, 10, none⟩ (.slice E3 z2.length f3)).setCell ⟨bo, 11, none⟩ (.slice E4 z1.length f4)) := sets12_below hB hbo
  have HW1 : Hid (((((((((((((w4.setCell ⟨bo, 0, none⟩ (.int .i64 x0)).setCell ⟨bo, 1, none⟩ (.int .i64 y0)).setCell ⟨bo, 2, none⟩ (.int .i64 x1)).setCell ⟨bo, 3, none⟩ (.int .i64 y1)).setCell ⟨bo, 4, none⟩ (.int .i64 rt)).setCell ⟨bo, 5, none⟩ (.int .i64 wd)).setCell ⟨bo, 6, none⟩ (.int .i64 cw)).setCell ⟨bo, 7, none⟩ (.int .i64 wd)).setCell ⟨bo, 8, none⟩ (.slice E1 z1.length f1)).setCell ⟨bo, 9, none⟩ (.slice E2 z2.length f2)).setCell ⟨bo, 10, none⟩ (.slice E3 z2.length f3)).setCell ⟨bo, 11, none⟩ (.slice E4 z1.length f4)).ownsRow w.heap.size 5 1 (.slice E1 z1.length f1) z1.length (z1.map (Value.int .u8))) := sets12_own (ownsRow_base hw1 hz3) HZ.out (by decide)
  have HW2 : Hid (((((((((((((w4.setCell ⟨bo, 0, none⟩ (.int .i64 x0)).setCell ⟨bo, 1, none⟩ (.int .i64 y0)).setCell ⟨bo, 2, none⟩ (.int .i64 x1)).setCell ⟨bo, 3, none⟩ (.int .i64 y1)).setCell ⟨bo, 4, none⟩ (.int .i64 rt)).setCell ⟨bo, 5, none⟩ (.int .i64 wd)).setCell ⟨bo, 6, none⟩ (.int .i64 cw)).setCell ⟨bo, 7, none⟩ (.int .i64 wd)).setCell ⟨bo, 8, none⟩ (.slice E1 z1.length f1)).setCell ⟨bo, 9, none⟩ (.slice E2 z2.length f2)).setCell ⟨bo, 10, none⟩ (.slice E3 z2.length f3)).setCell ⟨bo, 11, none⟩ (.slice E4 z1.length f4)).ownsRow w.heap.size 5 1 (.slice E2 z2.length f2) z2.length (z2.map (Value.int .u8))) := sets12_own (ownsRow_base hw2 hz3) HZ.out (by decide)
  have HW3 : Hid (((((((((((((w4.setCell ⟨bo, 0, none⟩ (.int .i64 x0)).setCell ⟨bo, 1, none⟩ (.int .i64 y0)).setCell ⟨bo, 2, none⟩ (.int .i64 x1)).setCell ⟨bo, 3, none⟩ (.int .i64 y1)).setCell ⟨bo, 4, none⟩ (.int .i64 rt)).setCell ⟨bo, 5, none⟩ (.int .i64 wd)).setCell ⟨bo, 6, none⟩ (.int .i64 cw)).setCell ⟨bo, 7, none⟩ (.int .i64 wd)).setCell ⟨bo, 8, none⟩ (.slice E1 z1.length f1)).setCell ⟨bo, 9, none⟩ (.slice E2 z2.length f2)).setCell ⟨bo, 10, none⟩ (.slice E3 z2.length f3)).setCell ⟨bo, 11, none⟩ (.slice E4 z1.length f4)).ownsRow w.heap.size 5 1 (.slice E3 z2.length f3) z2.length (z2.map (Value.int .u8))) := sets12_own (ownsRow_base hw3 hz3) HZ.out (by decide)
  have HW4 : Hid (((((((((((((w4.setCell ⟨bo, 0, none⟩ (.int .i64 x0)).setCell ⟨bo, 1, none⟩ (.int .i64 y0)).setCell ⟨bo, 2, none⟩ (.int .i64 x1)).setCell ⟨bo, 3, none⟩ (.int .i64 y1)).setCell ⟨bo, 4, none⟩ (.int .i64 rt)).setCell ⟨bo, 5, none⟩ (.int .i64 wd)).setCell ⟨bo, 6, none⟩ (.int .i64 cw)).setCell ⟨bo, 7, none⟩ (.int .i64 wd)).setCell ⟨bo, 8, none⟩ (.slice E1 z1.length f1)).setCell ⟨bo, 9, none⟩ (.slice E2 z2.length f2)).setCell ⟨bo, 10, none⟩ (.slice E3 z2.length f3)).setCell ⟨bo, 11, none⟩ (.slice E4 z1.length f4)).ownsRow w.heap.size 5 1 (.slice E4 z1.length f4) z1.length (z1.map (Value.int .u8))) := sets12_own (ownsRow_base hw4 hz3) HZ.out (by decide)
  generalize ((((((((((((w4.setCell ⟨bo, 0, none⟩ (.int .i64 x0)).setCell ⟨bo, 1, none⟩ (.int .i64 y0)).setCell ⟨bo, 2, none⟩ (.int .i64 x1)).setCell ⟨bo, 3, none⟩ (.int .i64 y1)).setCell ⟨bo, 4, none⟩ (.int .i64 rt)).setCell ⟨bo, 5, none⟩ (.int .i64 wd)).setCell ⟨bo, 6, none⟩ (.int .i64 cw)).setCell ⟨bo, 7, none⟩ (.int .i64 wd)).setCell ⟨bo, 8, none⟩ (.slice E1 z1.length f1)).setCell ⟨bo, 9, none⟩ (.slice E2 z2.length f2)).setCell ⟨bo, 10, none⟩ (.slice E3 z2.length f3)).setCell ⟨bo, 11, none⟩ (.slice E4 z1.length f4)) = wz at *
  clear hw1 hw2 hw3 hw4
  have r0 := row_cell (i := 0) (v := .int .i64 x0) HF.out rfl
  have r1 := row_cell (i := 1) (v := .int .i64 y0) HF.out rfl
  have r2 := row_cell (i := 2) (v := .int .i64 x1) HF.out rfl
  have r3 := row_cell (i := 3) (v := .int .i64 y1) HF.out rfl
  have r4 := row_cell (i := 4) (v := .int .i64 rt) HF.out rfl
  have r5 := row_cell (i := 5) (v := .int .i64 wd) HF.out rfl
  have r6 := row_cell (i := 6) (v := .int .i64 cw) HF.out rfl
  have r7 := row_cell (i := 7) (v := .int .i64 wd) HF.out rfl
  have r8 := row_cell (i := 8) (v := .slice E1 z1.length f1) HF.out rfl
  have r9 := row_cell (i := 9) (v := .slice E2 z2.length f2) HF.out rfl
  have r10 := row_cell (i := 10) (v := .slice E3 z2.length f3) HF.out rfl
  have r11 := row_cell (i := 11) (v := .slice E4 z1.length f4) HF.out rfl
  go_wp2
  exact bodyPost_ret (v := .agg #[.int .i64 x0, .int .i64 y0, .int .i64 x1, .int .i64 y1, .int .i64 rt, .int .i64 wd, .int .i64 cw, .int .i64 wd, .slice E1 z1.length f1, .slice E2 z2.length f2, .slice E3 z2.length f3, .slice E4 z1.length f4]) (by simp [results, Try.results13, go_sem, r0, r1, r2, r3, r4, r5, r6, r7, r8, r9, r10, r11]) rfl ⟨E1, E2, E3, E4, f1, f2, f3, f4, rfl, HW1.out, HW2.out, HW3.out, HW4.out, HBx⟩

/-- The sizes of a new film. -/
theorem div_up {x W : Int} (hW : 0 < W) : (x + (W - 1)) / W = (x - 1) / W + 1 := by
  rw [show x + (W - 1) = (x - 1) + W by omega, Int.add_ediv_of_dvd_right (Int.dvd_refl W), Int.ediv_self (by omega)]
theorem cdiv_bd {x0 x1 W : Int} (hW : 0 < W) (h4 : W ≤ 4) (h : x0 ≤ x1) (h0 : 0 ≤ x0) : 0 ≤ (x1 + (W - 1)) / W - x0 / W ∧ (x1 + (W - 1)) / W - x0 / W ≤ x1 - x0 + 1 := by
  have hc : W = 1 ∨ W = 2 ∨ W = 3 ∨ W = 4 := by omega
  rcases hc with rfl | rfl | rfl | rfl <;> omega
theorem cdiv_pos {x0 x1 W : Int} (hW : 0 < W) (h4 : W ≤ 4) (h : x0 < x1) (h0 : 0 ≤ x0) : 0 < (x1 + (W - 1)) / W - x0 / W := by
  have hc : W = 1 ∨ W = 2 ∨ W = 3 ∨ W = 4 := by omega
  rcases hc with rfl | rfl | rfl | rfl <;> omega
theorem stW_le (rt : Int) : stW rt ≤ 4 := by unfold stW; split; omega; split; omega; omega
theorem stH_le (rt : Int) : stH rt ≤ 4 := by unfold stH; split; omega; omega
theorem new_sizes {x0 y0 x1 y1 rt : Int} (hF : Fair x0 y0 x1 y1) (n1 : 0 ≤ x0) (n2 : 0 ≤ y0) : ∃ wd ht cw ch : Nat, x1 - x0 = wd ∧ y1 - y0 = ht ∧ cwOf rt x0 x1 = cw ∧ chOf rt y0 y1 = ch ∧ (wd : Int) ≤ 65536 ∧ (ht : Int) ≤ 65536 ∧ (cw : Int) ≤ 65537 ∧ (ch : Int) ≤ 65537 ∧ wd * ht ≤ 65536 ∧ cw * ch ≤ 262144 ∧ (0 < wd * ht → 0 < cw * ch) := by
  obtain ⟨_, g1, g2, g3, g4, g5⟩ := hF
  have c1 := cdiv_bd (stW_pos rt) (stW_le rt) g1 n1
  have c2 := cdiv_bd (stH_pos rt) (stH_le rt) g2 n2
  have p1 := fun h => cdiv_pos (x0 := x0) (x1 := x1) (stW_pos rt) (stW_le rt) h n1
  have p2 := fun h => cdiv_pos (x0 := y0) (x1 := y1) (stH_pos rt) (stH_le rt) h n2
  obtain ⟨wd, hw⟩ : ∃ n : Nat, x1 - x0 = n := ⟨(x1 - x0).toNat, by omega⟩
  obtain ⟨ht, hh⟩ : ∃ n : Nat, y1 - y0 = n := ⟨(y1 - y0).toNat, by omega⟩
  obtain ⟨cw, hc⟩ : ∃ n : Nat, cwOf rt x0 x1 = n := ⟨(cwOf rt x0 x1).toNat, by unfold cwOf; omega⟩
  obtain ⟨ch, hd⟩ : ∃ n : Nat, chOf rt y0 y1 = n := ⟨(chOf rt y0 y1).toNat, by unfold chOf; omega⟩
  have hc' := hc
  have hd' := hd
  unfold cwOf at hc'
  unfold chOf at hd'
  have b1 : cw ≤ wd + 1 := by omega
  have b2 : ch ≤ ht + 1 := by omega
  have b3 : wd * ht ≤ 65536 := by
    rw [hw, hh, ← Int.natCast_mul] at g5
    omega
  have b4 : cw * ch ≤ (wd + 1) * (ht + 1) := Nat.mul_le_mul b1 b2
  have b5 : (wd + 1) * (ht + 1) = wd * ht + wd + ht + 1 := by rw [Nat.add_mul, Nat.mul_add]; omega
  refine ⟨wd, ht, cw, ch, hw, hh, hc, hd, by omega, by omega, by omega, by omega, b3, by omega, fun h => ?_⟩
  have h1 : 0 < wd := Nat.pos_of_mul_pos_right h
  have h2 : 0 < ht := Nat.pos_of_mul_pos_left h
  have := p1 (by omega)
  have := p2 (by omega)
  exact Nat.mul_pos (by omega) (by omega)
theorem row_lt {r w k h : Int} (r0 : 0 ≤ r) (rh : r < h) (k0 : 0 ≤ k) (kw : k < w) : 0 ≤ r * w + k ∧ r * w + k < h * w := by
  have e1 : 0 ≤ r * w := Int.mul_nonneg r0 (by omega)
  have e2 : (r + 1) * w ≤ h * w := Int.mul_le_mul_of_nonneg_right (by omega) (by omega)
  rw [Int.add_mul, Int.one_mul] at e2
  omega
theorem new_all {x0 y0 x1 y1 rt : Int} {wd ht cw ch : Nat} (hw : x1 - x0 = wd) (hh : y1 - y0 = ht) (hc : cwOf rt x0 x1 = cw) (hd : chOf rt y0 y1 = ch) : AllT x0 y0 x1 y1 rt wd cw wd (wd * ht) (cw * ch) (cw * ch) (wd * ht) := by
  intro x y hi
  obtain ⟨i1, i2, i3, i4⟩ := hi
  have a1 := row_lt (r := y - y0) (w := wd) (k := x - x0) (h := ht) (by omega) (by omega) (by omega) (by omega)
  have hW := stW_pos rt
  have hH := stH_pos rt
  unfold cwOf at hc
  unfold chOf at hd
  rw [div_up hW] at hc
  rw [div_up hH] at hd
  have l1 := Int.ediv_le_ediv hW (show x ≤ x1 - 1 by omega)
  have l2 := Int.ediv_le_ediv hH (show y ≤ y1 - 1 by omega)
  have l3 := Int.ediv_le_ediv hW i1
  have l4 := Int.ediv_le_ediv hH i3
  have a2 := row_lt (r := y / stH rt - y0 / stH rt) (w := cw) (k := x / stW rt - x0 / stW rt) (h := ch) (by omega) (by omega) (by omega) (by omega)
  have e1 : ((wd * ht : Nat) : Int) = (ht : Int) * wd := by rw [Int.natCast_mul, Int.mul_comm]
  have e2 : ((cw * ch : Nat) : Int) = (ch : Int) * cw := by rw [Int.natCast_mul, Int.mul_comm]
  exact ⟨a1.1, by rw [e1]; exact a1.2, a2.1, by rw [e2]; exact a2.2, by rw [e2]; exact a2.2, a1.1, by rw [e1]; exact a1.2⟩

end Go.Proofs.Ytcomldkihibfjaa
