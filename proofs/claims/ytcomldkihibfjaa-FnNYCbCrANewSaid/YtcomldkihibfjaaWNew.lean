/- The walk of the law FnNYCbCrANew. -/
import Derived.Test.YtcomldkihibfjaaFilmINew
namespace Go.Proofs.Ytcomldkihibfjaa
open Go.RowKit
set_option linter.unusedVariables false
set_option linter.unusedSimpArgs false


set_option maxRecDepth 100000 in
set_option maxHeartbeats 2000000 in
theorem new_g0 (x0 y0 x1 y1 rt : Int) (w : World)  (hF : Hid (¬ (Fair x0 y0 x1 y1))) :
    Calls Try.prog 3 #[.agg #[.int .i64 x0, .int .i64 y0, .int .i64 x1, .int .i64 y1], .int .i64 rt] w fun e w' => e = .returned (.bool true) ∧ Below w.heap.size w w' := by
  have hB : Below w.heap.size w (w.alloc (.cells #[.int .i64 x0, .int .i64 y0, .int .i64 x1, .int .i64 y1] 23)) := (Below.refl _ _).alloc (Nat.le_refl _) _
  have R0 : (w.alloc (.cells #[.int .i64 x0, .int .i64 y0, .int .i64 x1, .int .i64 y1] 23)).cell? ⟨w.heap.size, 0, none⟩ = some (.int .i64 x0) := by first | (simp; done) | go_simp
  have R1 : (w.alloc (.cells #[.int .i64 x0, .int .i64 y0, .int .i64 x1, .int .i64 y1] 23)).cell? ⟨w.heap.size, 1, none⟩ = some (.int .i64 y0) := by first | (simp; done) | go_simp
  have R2 : (w.alloc (.cells #[.int .i64 x0, .int .i64 y0, .int .i64 x1, .int .i64 y1] 23)).cell? ⟨w.heap.size, 2, none⟩ = some (.int .i64 x1) := by first | (simp; done) | go_simp
  have R3 : (w.alloc (.cells #[.int .i64 x0, .int .i64 y0, .int .i64 x1, .int .i64 y1] 23)).cell? ⟨w.heap.size, 3, none⟩ = some (.int .i64 y1) := by first | (simp; done) | go_simp
  go_enter Try.func3, Try.ntmps3
  go_wp2_with fail
  generalize w.alloc (.cells #[.int .i64 x0, .int .i64 y0, .int .i64 x1, .int .i64 y1] 23) = W0 at *
  refine (box_any x0 y0 x1 y1 _).mono ?_
  rintro e w1 ⟨rfl, hb1⟩
  replace R0 := cell_kept R0 hb1
  replace R1 := cell_kept R1 hb1
  replace R2 := cell_kept R2 hb1
  replace R3 := cell_kept R3 hb1
  replace hB := hB.trans (hb1.mono hB.size)
  clear hb1
  go_wp2_with fail
  refine (fair_any x0 y0 x1 y1 false (by simp [hF.out]) _).mono ?_
  rintro e w2 ⟨rfl, hb2⟩
  replace R0 := cell_kept R0 hb2
  replace R1 := cell_kept R1 hb2
  replace R2 := cell_kept R2 hb2
  replace R3 := cell_kept R3 hb2
  replace hB := hB.trans (hb2.mono hB.size)
  clear hb2
  go_wp2
  go_ret
  exact ⟨by simp, hB⟩

set_option maxRecDepth 100000 in
set_option maxHeartbeats 2000000 in
theorem new_g1 (x0 y0 x1 y1 rt : Int) (w : World) (hF : Hid (Fair x0 y0 x1 y1)) (hQ : Hid (¬ (0 ≤ rt ∧ rt ≤ 5))) :
    Calls Try.prog 3 #[.agg #[.int .i64 x0, .int .i64 y0, .int .i64 x1, .int .i64 y1], .int .i64 rt] w fun e w' => e = .returned (.bool true) ∧ Below w.heap.size w w' := by
  have hB : Below w.heap.size w (w.alloc (.cells #[.int .i64 x0, .int .i64 y0, .int .i64 x1, .int .i64 y1] 23)) := (Below.refl _ _).alloc (Nat.le_refl _) _
  have R0 : (w.alloc (.cells #[.int .i64 x0, .int .i64 y0, .int .i64 x1, .int .i64 y1] 23)).cell? ⟨w.heap.size, 0, none⟩ = some (.int .i64 x0) := by first | (simp; done) | go_simp
  have R1 : (w.alloc (.cells #[.int .i64 x0, .int .i64 y0, .int .i64 x1, .int .i64 y1] 23)).cell? ⟨w.heap.size, 1, none⟩ = some (.int .i64 y0) := by first | (simp; done) | go_simp
  have R2 : (w.alloc (.cells #[.int .i64 x0, .int .i64 y0, .int .i64 x1, .int .i64 y1] 23)).cell? ⟨w.heap.size, 2, none⟩ = some (.int .i64 x1) := by first | (simp; done) | go_simp
  have R3 : (w.alloc (.cells #[.int .i64 x0, .int .i64 y0, .int .i64 x1, .int .i64 y1] 23)).cell? ⟨w.heap.size, 3, none⟩ = some (.int .i64 y1) := by first | (simp; done) | go_simp
  go_enter Try.func3, Try.ntmps3
  go_wp2_with fail
  generalize w.alloc (.cells #[.int .i64 x0, .int .i64 y0, .int .i64 x1, .int .i64 y1] 23) = W0 at *
  refine (box_any x0 y0 x1 y1 _).mono ?_
  rintro e w1 ⟨rfl, hb1⟩
  replace R0 := cell_kept R0 hb1
  replace R1 := cell_kept R1 hb1
  replace R2 := cell_kept R2 hb1
  replace R3 := cell_kept R3 hb1
  replace hB := hB.trans (hb1.mono hB.size)
  clear hb1
  go_wp2_with fail
  refine (fair_any x0 y0 x1 y1 true (by simp [hF.out]) _).mono ?_
  rintro e w2 ⟨rfl, hb2⟩
  replace R0 := cell_kept R0 hb2
  replace R1 := cell_kept R1 hb2
  replace R2 := cell_kept R2 hb2
  replace R3 := cell_kept R3 hb2
  replace hB := hB.trans (hb2.mono hB.size)
  clear hb2
  go_wp2_with fail
  refine (ratio_any rt false (by have := hQ.out; simp only [this]; simp) _).mono ?_
  rintro e w' ⟨rfl, rfl⟩
  go_wp2
  go_ret
  exact ⟨by simp, hB⟩

set_option maxRecDepth 100000 in
set_option maxHeartbeats 2000000 in
theorem new_g2 (x0 y0 x1 y1 rt : Int) (w : World) (hF : Hid (Fair x0 y0 x1 y1)) (hQ : Hid (0 ≤ rt ∧ rt ≤ 5)) (m1 : x0 < 0) :
    Calls Try.prog 3 #[.agg #[.int .i64 x0, .int .i64 y0, .int .i64 x1, .int .i64 y1], .int .i64 rt] w fun e w' => e = .returned (.bool true) ∧ Below w.heap.size w w' := by
  have hB : Below w.heap.size w (w.alloc (.cells #[.int .i64 x0, .int .i64 y0, .int .i64 x1, .int .i64 y1] 23)) := (Below.refl _ _).alloc (Nat.le_refl _) _
  have R0 : (w.alloc (.cells #[.int .i64 x0, .int .i64 y0, .int .i64 x1, .int .i64 y1] 23)).cell? ⟨w.heap.size, 0, none⟩ = some (.int .i64 x0) := by first | (simp; done) | go_simp
  have R1 : (w.alloc (.cells #[.int .i64 x0, .int .i64 y0, .int .i64 x1, .int .i64 y1] 23)).cell? ⟨w.heap.size, 1, none⟩ = some (.int .i64 y0) := by first | (simp; done) | go_simp
  have R2 : (w.alloc (.cells #[.int .i64 x0, .int .i64 y0, .int .i64 x1, .int .i64 y1] 23)).cell? ⟨w.heap.size, 2, none⟩ = some (.int .i64 x1) := by first | (simp; done) | go_simp
  have R3 : (w.alloc (.cells #[.int .i64 x0, .int .i64 y0, .int .i64 x1, .int .i64 y1] 23)).cell? ⟨w.heap.size, 3, none⟩ = some (.int .i64 y1) := by first | (simp; done) | go_simp
  go_enter Try.func3, Try.ntmps3
  go_wp2_with fail
  generalize w.alloc (.cells #[.int .i64 x0, .int .i64 y0, .int .i64 x1, .int .i64 y1] 23) = W0 at *
  refine (box_any x0 y0 x1 y1 _).mono ?_
  rintro e w1 ⟨rfl, hb1⟩
  replace R0 := cell_kept R0 hb1
  replace R1 := cell_kept R1 hb1
  replace R2 := cell_kept R2 hb1
  replace R3 := cell_kept R3 hb1
  replace hB := hB.trans (hb1.mono hB.size)
  clear hb1
  go_wp2_with fail
  refine (fair_any x0 y0 x1 y1 true (by simp [hF.out]) _).mono ?_
  rintro e w2 ⟨rfl, hb2⟩
  replace R0 := cell_kept R0 hb2
  replace R1 := cell_kept R1 hb2
  replace R2 := cell_kept R2 hb2
  replace R3 := cell_kept R3 hb2
  replace hB := hB.trans (hb2.mono hB.size)
  clear hb2
  go_wp2_with fail
  refine (ratio_any rt true (by have := hQ.out; simp only [this]; simp) _).mono ?_
  rintro e w' ⟨rfl, rfl⟩
  go_wp2
  go_ret
  exact ⟨by simp, hB⟩

set_option maxRecDepth 100000 in
set_option maxHeartbeats 2000000 in
theorem new_g3 (x0 y0 x1 y1 rt : Int) (w : World) (hF : Hid (Fair x0 y0 x1 y1)) (hQ : Hid (0 ≤ rt ∧ rt ≤ 5)) (m1 : 0 ≤ x0) (m2 : y0 < 0) :
    Calls Try.prog 3 #[.agg #[.int .i64 x0, .int .i64 y0, .int .i64 x1, .int .i64 y1], .int .i64 rt] w fun e w' => e = .returned (.bool true) ∧ Below w.heap.size w w' := by
  have hB : Below w.heap.size w (w.alloc (.cells #[.int .i64 x0, .int .i64 y0, .int .i64 x1, .int .i64 y1] 23)) := (Below.refl _ _).alloc (Nat.le_refl _) _
  have R0 : (w.alloc (.cells #[.int .i64 x0, .int .i64 y0, .int .i64 x1, .int .i64 y1] 23)).cell? ⟨w.heap.size, 0, none⟩ = some (.int .i64 x0) := by first | (simp; done) | go_simp
  have R1 : (w.alloc (.cells #[.int .i64 x0, .int .i64 y0, .int .i64 x1, .int .i64 y1] 23)).cell? ⟨w.heap.size, 1, none⟩ = some (.int .i64 y0) := by first | (simp; done) | go_simp
  have R2 : (w.alloc (.cells #[.int .i64 x0, .int .i64 y0, .int .i64 x1, .int .i64 y1] 23)).cell? ⟨w.heap.size, 2, none⟩ = some (.int .i64 x1) := by first | (simp; done) | go_simp
  have R3 : (w.alloc (.cells #[.int .i64 x0, .int .i64 y0, .int .i64 x1, .int .i64 y1] 23)).cell? ⟨w.heap.size, 3, none⟩ = some (.int .i64 y1) := by first | (simp; done) | go_simp
  go_enter Try.func3, Try.ntmps3
  go_wp2_with fail
  generalize w.alloc (.cells #[.int .i64 x0, .int .i64 y0, .int .i64 x1, .int .i64 y1] 23) = W0 at *
  refine (box_any x0 y0 x1 y1 _).mono ?_
  rintro e w1 ⟨rfl, hb1⟩
  replace R0 := cell_kept R0 hb1
  replace R1 := cell_kept R1 hb1
  replace R2 := cell_kept R2 hb1
  replace R3 := cell_kept R3 hb1
  replace hB := hB.trans (hb1.mono hB.size)
  clear hb1
  go_wp2_with fail
  refine (fair_any x0 y0 x1 y1 true (by simp [hF.out]) _).mono ?_
  rintro e w2 ⟨rfl, hb2⟩
  replace R0 := cell_kept R0 hb2
  replace R1 := cell_kept R1 hb2
  replace R2 := cell_kept R2 hb2
  replace R3 := cell_kept R3 hb2
  replace hB := hB.trans (hb2.mono hB.size)
  clear hb2
  go_wp2_with fail
  refine (ratio_any rt true (by have := hQ.out; simp only [this]; simp) _).mono ?_
  rintro e w' ⟨rfl, rfl⟩
  go_wp2
  go_ret
  exact ⟨by simp, hB⟩

set_option maxRecDepth 100000 in
set_option maxHeartbeats 2000000 in
theorem new_g4 (x0 y0 x1 y1 rt : Int) (w : World) (hF : Hid (Fair x0 y0 x1 y1)) (hQ : Hid (0 ≤ rt ∧ rt ≤ 5)) (m1 : 0 ≤ x0) (m2 : 0 ≤ y0) (m3 : 4096 < (x1 - x0) * (y1 - y0)) :
    Calls Try.prog 3 #[.agg #[.int .i64 x0, .int .i64 y0, .int .i64 x1, .int .i64 y1], .int .i64 rt] w fun e w' => e = .returned (.bool true) ∧ Below w.heap.size w w' := by
  obtain ⟨⟨⟨f1, f2⟩, ⟨f3, f4⟩, ⟨f5, f6⟩, ⟨f7, f8⟩⟩, g1, g2, g3, g4, g5⟩ := id hF.out
  have p0 : 0 ≤ (x1 - x0) * (y1 - y0) := Int.mul_nonneg (by omega) (by omega)
  have hB : Below w.heap.size w (w.alloc (.cells #[.int .i64 x0, .int .i64 y0, .int .i64 x1, .int .i64 y1] 23)) := (Below.refl _ _).alloc (Nat.le_refl _) _
  have R0 : (w.alloc (.cells #[.int .i64 x0, .int .i64 y0, .int .i64 x1, .int .i64 y1] 23)).cell? ⟨w.heap.size, 0, none⟩ = some (.int .i64 x0) := by first | (simp; done) | go_simp
  have R1 : (w.alloc (.cells #[.int .i64 x0, .int .i64 y0, .int .i64 x1, .int .i64 y1] 23)).cell? ⟨w.heap.size, 1, none⟩ = some (.int .i64 y0) := by first | (simp; done) | go_simp
  have R2 : (w.alloc (.cells #[.int .i64 x0, .int .i64 y0, .int .i64 x1, .int .i64 y1] 23)).cell? ⟨w.heap.size, 2, none⟩ = some (.int .i64 x1) := by first | (simp; done) | go_simp
  have R3 : (w.alloc (.cells #[.int .i64 x0, .int .i64 y0, .int .i64 x1, .int .i64 y1] 23)).cell? ⟨w.heap.size, 3, none⟩ = some (.int .i64 y1) := by first | (simp; done) | go_simp
  go_enter Try.func3, Try.ntmps3
  go_wp2_with fail
  generalize w.alloc (.cells #[.int .i64 x0, .int .i64 y0, .int .i64 x1, .int .i64 y1] 23) = W0 at *
  refine (box_any x0 y0 x1 y1 _).mono ?_
  rintro e w1 ⟨rfl, hb1⟩
  replace R0 := cell_kept R0 hb1
  replace R1 := cell_kept R1 hb1
  replace R2 := cell_kept R2 hb1
  replace R3 := cell_kept R3 hb1
  replace hB := hB.trans (hb1.mono hB.size)
  clear hb1
  go_wp2_with fail
  refine (fair_any x0 y0 x1 y1 true (by simp [hF.out]) _).mono ?_
  rintro e w2 ⟨rfl, hb2⟩
  replace R0 := cell_kept R0 hb2
  replace R1 := cell_kept R1 hb2
  replace R2 := cell_kept R2 hb2
  replace R3 := cell_kept R3 hb2
  replace hB := hB.trans (hb2.mono hB.size)
  clear hb2
  go_wp2_with fail
  refine (ratio_any rt true (by have := hQ.out; simp only [this]; simp) _).mono ?_
  rintro e w' ⟨rfl, rfl⟩
  go_wp2
  go_ret
  exact ⟨by simp, hB⟩

set_option maxRecDepth 100000 in
set_option maxHeartbeats 4000000 in
theorem new_go (x0 y0 x1 y1 rt : Int) (w : World) (hF : Hid (Fair x0 y0 x1 y1)) (hQ : Hid (0 ≤ rt ∧ rt ≤ 5)) (m1 : 0 ≤ x0) (m2 : 0 ≤ y0) (m3 : (x1 - x0) * (y1 - y0) ≤ 4096) (wd ht cw ch : Nat) (HW : Hid (x1 - x0 = wd)) (HH : Hid (y1 - y0 = ht)) (HC : Hid (cwOf rt x0 x1 = cw)) (HD : Hid (chOf rt y0 y1 = ch)) (bw : (wd : Int) ≤ 65536) (bh : (ht : Int) ≤ 65536) (bcw : (cw : Int) ≤ 65537) (bch : (ch : Int) ≤ 65537) (q1 : wd * ht ≤ 65536) (q2 : cw * ch ≤ 262144) (q3 : 0 < wd * ht → 0 < cw * ch) :
    Calls Try.prog 3 #[.agg #[.int .i64 x0, .int .i64 y0, .int .i64 x1, .int .i64 y1], .int .i64 rt] w fun e w' => e = .returned (.bool true) ∧ Below w.heap.size w w' := by
  obtain ⟨⟨⟨f1, f2⟩, ⟨f3, f4⟩, ⟨f5, f6⟩, ⟨f7, f8⟩⟩, g1, g2, g3, g4, g5⟩ := id hF.out
  have p0 : 0 ≤ (x1 - x0) * (y1 - y0) := Int.mul_nonneg (by omega) (by omega)
  have HA0 := new_all HW.out HH.out HC.out HD.out
  have hA : Hid (AllT x0 y0 x1 y1 rt wd cw wd (zeros (wd * ht)).length (zeros (cw * ch)).length (zeros (cw * ch)).length (zeros (wd * ht)).length) := by
    unfold Hid; simp only [zeros_length]; exact HA0
  have hFF : Hid (FairF x0 y0 x1 y1 wd cw wd) := ⟨hF.out, ⟨by omega, by omega⟩, ⟨by omega, by omega⟩, ⟨by omega, by omega⟩⟩
  clear HA0
  have hB : Below w.heap.size w (w.alloc (.cells #[.int .i64 x0, .int .i64 y0, .int .i64 x1, .int .i64 y1] 23)) := (Below.refl _ _).alloc (Nat.le_refl _) _
  have R0 : (w.alloc (.cells #[.int .i64 x0, .int .i64 y0, .int .i64 x1, .int .i64 y1] 23)).cell? ⟨w.heap.size, 0, none⟩ = some (.int .i64 x0) := by first | (simp; done) | go_simp
  have R1 : (w.alloc (.cells #[.int .i64 x0, .int .i64 y0, .int .i64 x1, .int .i64 y1] 23)).cell? ⟨w.heap.size, 1, none⟩ = some (.int .i64 y0) := by first | (simp; done) | go_simp
  have R2 : (w.alloc (.cells #[.int .i64 x0, .int .i64 y0, .int .i64 x1, .int .i64 y1] 23)).cell? ⟨w.heap.size, 2, none⟩ = some (.int .i64 x1) := by first | (simp; done) | go_simp
  have R3 : (w.alloc (.cells #[.int .i64 x0, .int .i64 y0, .int .i64 x1, .int .i64 y1] 23)).cell? ⟨w.heap.size, 3, none⟩ = some (.int .i64 y1) := by first | (simp; done) | go_simp
  go_enter Try.func3, Try.ntmps3
  go_wp2_with fail
  generalize w.alloc (.cells #[.int .i64 x0, .int .i64 y0, .int .i64 x1, .int .i64 y1] 23) = W0 at *
  refine (box_any x0 y0 x1 y1 _).mono ?_
  rintro e w1 ⟨rfl, hb1⟩
  replace R0 := cell_kept R0 hb1
  replace R1 := cell_kept R1 hb1
  replace R2 := cell_kept R2 hb1
  replace R3 := cell_kept R3 hb1
  replace hB := hB.trans (hb1.mono hB.size)
  clear hb1
  go_wp2_with fail
  refine (fair_any x0 y0 x1 y1 true (by simp [hF.out]) _).mono ?_
  rintro e w2 ⟨rfl, hb2⟩
  replace R0 := cell_kept R0 hb2
  replace R1 := cell_kept R1 hb2
  replace R2 := cell_kept R2 hb2
  replace R3 := cell_kept R3 hb2
  replace hB := hB.trans (hb2.mono hB.size)
  clear hb2
  go_wp2_with fail
  refine (ratio_any rt true (by have := hQ.out; simp only [this]; simp) _).mono ?_
  rintro e w' ⟨rfl, rfl⟩
  go_wp2_with fail
  refine (implNew_any x0 y0 x1 y1 rt wd ht cw ch HW HH HC HD bw bh bcw bch q1 q2 q3 _ m1 m2 g1 g2 f6 f8 hQ.out.1 hQ.out.2).mono ?_
  rintro e w3 ⟨E1, E2, E3, E4, e1, e2, e3, e4, rfl, ho1, ho2, ho3, ho4, hb3⟩
  clear ho1 ho2 ho3 ho4
  replace R0 := cell_kept R0 hb3
  replace R1 := cell_kept R1 hb3
  replace R2 := cell_kept R2 hb3
  replace R3 := cell_kept R3 hb3
  replace hB := hB.trans (hb3.mono hB.size)
  clear hb3
  generalize zeros (wd * ht) = z1 at *
  generalize zeros (cw * ch) = z2 at *
  have aw : Below w3.heap.size w3 (w3.alloc (.cells #[.int .i64 x0, .int .i64 y0, .int .i64 x1, .int .i64 y1, .int .i64 rt, .int .i64 wd, .int .i64 cw, .int .i64 wd, .slice E1 z1.length e1, .slice E2 z2.length e2, .slice E3 z2.length e3, .slice E4 z1.length e4] 30)) := (Below.refl _ _).alloc (Nat.le_refl _) _
  replace R0 := cell_kept R0 aw
  replace R1 := cell_kept R1 aw
  replace R2 := cell_kept R2 aw
  replace R3 := cell_kept R3 aw
  replace hB := hB.trans (aw.mono hB.size)
  have M0 : (w3.alloc (.cells #[.int .i64 x0, .int .i64 y0, .int .i64 x1, .int .i64 y1, .int .i64 rt, .int .i64 wd, .int .i64 cw, .int .i64 wd, .slice E1 z1.length e1, .slice E2 z2.length e2, .slice E3 z2.length e3, .slice E4 z1.length e4] 30)).cell? ⟨w3.heap.size, 0, none⟩ = some (.int .i64 x0) := by simp
  have M1 : (w3.alloc (.cells #[.int .i64 x0, .int .i64 y0, .int .i64 x1, .int .i64 y1, .int .i64 rt, .int .i64 wd, .int .i64 cw, .int .i64 wd, .slice E1 z1.length e1, .slice E2 z2.length e2, .slice E3 z2.length e3, .slice E4 z1.length e4] 30)).cell? ⟨w3.heap.size, 1, none⟩ = some (.int .i64 y0) := by simp
  have M2 : (w3.alloc (.cells #[.int .i64 x0, .int .i64 y0, .int .i64 x1, .int .i64 y1, .int .i64 rt, .int .i64 wd, .int .i64 cw, .int .i64 wd, .slice E1 z1.length e1, .slice E2 z2.length e2, .slice E3 z2.length e3, .slice E4 z1.length e4] 30)).cell? ⟨w3.heap.size, 2, none⟩ = some (.int .i64 x1) := by simp
  have M3 : (w3.alloc (.cells #[.int .i64 x0, .int .i64 y0, .int .i64 x1, .int .i64 y1, .int .i64 rt, .int .i64 wd, .int .i64 cw, .int .i64 wd, .slice E1 z1.length e1, .slice E2 z2.length e2, .slice E3 z2.length e3, .slice E4 z1.length e4] 30)).cell? ⟨w3.heap.size, 3, none⟩ = some (.int .i64 y1) := by simp
  have M4 : (w3.alloc (.cells #[.int .i64 x0, .int .i64 y0, .int .i64 x1, .int .i64 y1, .int .i64 rt, .int .i64 wd, .int .i64 cw, .int .i64 wd, .slice E1 z1.length e1, .slice E2 z2.length e2, .slice E3 z2.length e3, .slice E4 z1.length e4] 30)).cell? ⟨w3.heap.size, 4, none⟩ = some (.int .i64 rt) := by simp
  have M5 : (w3.alloc (.cells #[.int .i64 x0, .int .i64 y0, .int .i64 x1, .int .i64 y1, .int .i64 rt, .int .i64 wd, .int .i64 cw, .int .i64 wd, .slice E1 z1.length e1, .slice E2 z2.length e2, .slice E3 z2.length e3, .slice E4 z1.length e4] 30)).cell? ⟨w3.heap.size, 5, none⟩ = some (.int .i64 wd) := by simp
  have M6 : (w3.alloc (.cells #[.int .i64 x0, .int .i64 y0, .int .i64 x1, .int .i64 y1, .int .i64 rt, .int .i64 wd, .int .i64 cw, .int .i64 wd, .slice E1 z1.length e1, .slice E2 z2.length e2, .slice E3 z2.length e3, .slice E4 z1.length e4] 30)).cell? ⟨w3.heap.size, 6, none⟩ = some (.int .i64 cw) := by simp
  have M7 : (w3.alloc (.cells #[.int .i64 x0, .int .i64 y0, .int .i64 x1, .int .i64 y1, .int .i64 rt, .int .i64 wd, .int .i64 cw, .int .i64 wd, .slice E1 z1.length e1, .slice E2 z2.length e2, .slice E3 z2.length e3, .slice E4 z1.length e4] 30)).cell? ⟨w3.heap.size, 7, none⟩ = some (.int .i64 wd) := by simp
  have M8 : (w3.alloc (.cells #[.int .i64 x0, .int .i64 y0, .int .i64 x1, .int .i64 y1, .int .i64 rt, .int .i64 wd, .int .i64 cw, .int .i64 wd, .slice E1 z1.length e1, .slice E2 z2.length e2, .slice E3 z2.length e3, .slice E4 z1.length e4] 30)).cell? ⟨w3.heap.size, 8, none⟩ = some (.slice E1 z1.length e1) := by simp
  have M9 : (w3.alloc (.cells #[.int .i64 x0, .int .i64 y0, .int .i64 x1, .int .i64 y1, .int .i64 rt, .int .i64 wd, .int .i64 cw, .int .i64 wd, .slice E1 z1.length e1, .slice E2 z2.length e2, .slice E3 z2.length e3, .slice E4 z1.length e4] 30)).cell? ⟨w3.heap.size, 9, none⟩ = some (.slice E2 z2.length e2) := by simp
  have M10 : (w3.alloc (.cells #[.int .i64 x0, .int .i64 y0, .int .i64 x1, .int .i64 y1, .int .i64 rt, .int .i64 wd, .int .i64 cw, .int .i64 wd, .slice E1 z1.length e1, .slice E2 z2.length e2, .slice E3 z2.length e3, .slice E4 z1.length e4] 30)).cell? ⟨w3.heap.size, 10, none⟩ = some (.slice E3 z2.length e3) := by simp
  have M11 : (w3.alloc (.cells #[.int .i64 x0, .int .i64 y0, .int .i64 x1, .int .i64 y1, .int .i64 rt, .int .i64 wd, .int .i64 cw, .int .i64 wd, .slice E1 z1.length e1, .slice E2 z2.length e2, .slice E3 z2.length e3, .slice E4 z1.length e4] 30)).cell? ⟨w3.heap.size, 11, none⟩ = some (.slice E4 z1.length e4) := by simp
  have hltWA : w3.heap.size < (w3.alloc (.cells #[.int .i64 x0, .int .i64 y0, .int .i64 x1, .int .i64 y1, .int .i64 rt, .int .i64 wd, .int .i64 cw, .int .i64 wd, .slice E1 z1.length e1, .slice E2 z2.length e2, .slice E3 z2.length e3, .slice E4 z1.length e4] 30)).heap.size := by simp
  clear aw
  go_wp2_with fail
  generalize w3.alloc (.cells #[.int .i64 x0, .int .i64 y0, .int .i64 x1, .int .i64 y1, .int .i64 rt, .int .i64 wd, .int .i64 cw, .int .i64 wd, .slice E1 z1.length e1, .slice E2 z2.length e2, .slice E3 z2.length e3, .slice E4 z1.length e4] 30) = WA at *
  generalize w3.heap.size = ba at *
  have HS : Hid (Below w.heap.size w WA ∧ WA.cell? ⟨w.heap.size, 0, none⟩ = some (.int .i64 x0) ∧ WA.cell? ⟨w.heap.size, 1, none⟩ = some (.int .i64 y0) ∧ WA.cell? ⟨w.heap.size, 2, none⟩ = some (.int .i64 x1) ∧ WA.cell? ⟨w.heap.size, 3, none⟩ = some (.int .i64 y1) ∧ WA.cell? ⟨ba, 0, none⟩ = some (.int .i64 x0) ∧ WA.cell? ⟨ba, 1, none⟩ = some (.int .i64 y0) ∧ WA.cell? ⟨ba, 2, none⟩ = some (.int .i64 x1) ∧ WA.cell? ⟨ba, 3, none⟩ = some (.int .i64 y1) ∧ WA.cell? ⟨ba, 4, none⟩ = some (.int .i64 rt) ∧ WA.cell? ⟨ba, 5, none⟩ = some (.int .i64 wd) ∧ WA.cell? ⟨ba, 6, none⟩ = some (.int .i64 cw) ∧ WA.cell? ⟨ba, 7, none⟩ = some (.int .i64 wd) ∧ WA.cell? ⟨ba, 8, none⟩ = some (.slice E1 z1.length e1) ∧ WA.cell? ⟨ba, 9, none⟩ = some (.slice E2 z2.length e2) ∧ WA.cell? ⟨ba, 10, none⟩ = some (.slice E3 z2.length e3) ∧ WA.cell? ⟨ba, 11, none⟩ = some (.slice E4 z1.length e4)) := ⟨hB, R0, R1, R2, R3, M0, M1, M2, M3, M4, M5, M6, M7, M8, M9, M10, M11⟩
  go_wp2
  go_loopw [6] (fun yv wr => ∃ e : Int, yv = .int .i64 e ∧ y0 ≤ e ∧ e ≤ y1 ∧ Hid (Below w.heap.size w wr ∧ wr.cell? ⟨w.heap.size, 0, none⟩ = some (.int .i64 x0) ∧ wr.cell? ⟨w.heap.size, 1, none⟩ = some (.int .i64 y0) ∧ wr.cell? ⟨w.heap.size, 2, none⟩ = some (.int .i64 x1) ∧ wr.cell? ⟨w.heap.size, 3, none⟩ = some (.int .i64 y1) ∧ wr.cell? ⟨ba, 0, none⟩ = some (.int .i64 x0) ∧ wr.cell? ⟨ba, 1, none⟩ = some (.int .i64 y0) ∧ wr.cell? ⟨ba, 2, none⟩ = some (.int .i64 x1) ∧ wr.cell? ⟨ba, 3, none⟩ = some (.int .i64 y1) ∧ wr.cell? ⟨ba, 4, none⟩ = some (.int .i64 rt) ∧ wr.cell? ⟨ba, 5, none⟩ = some (.int .i64 wd) ∧ wr.cell? ⟨ba, 6, none⟩ = some (.int .i64 cw) ∧ wr.cell? ⟨ba, 7, none⟩ = some (.int .i64 wd) ∧ wr.cell? ⟨ba, 8, none⟩ = some (.slice E1 z1.length e1) ∧ wr.cell? ⟨ba, 9, none⟩ = some (.slice E2 z2.length e2) ∧ wr.cell? ⟨ba, 10, none⟩ = some (.slice E3 z2.length e3) ∧ wr.cell? ⟨ba, 11, none⟩ = some (.slice E4 z1.length e4))) (fun yv _ => (y1 - intOf yv).toNat)
  case atStart => exact ⟨y0, rfl, Int.le_refl _, by omega, HS⟩
  case round =>
    obtain ⟨e, rfl, h1, h2, KR⟩ := hrel
    clear HS R0 R1 R2 R3 M0 M1 M2 M3 M4 M5 M6 M7 M8 M9 M10 M11 hB
    obtain ⟨hB, R0, R1, R2, R3, M0, M1, M2, M3, M4, M5, M6, M7, M8, M9, M10, M11⟩ := id KR.out
    by_cases hlt : e < y1
    · go_wp2
      go_loopw [7] (fun xv wr => ∃ u : Int, xv = .int .i64 u ∧ x0 ≤ u ∧ u ≤ x1 ∧ Hid (Below w.heap.size w wr ∧ wr.cell? ⟨w.heap.size, 0, none⟩ = some (.int .i64 x0) ∧ wr.cell? ⟨w.heap.size, 1, none⟩ = some (.int .i64 y0) ∧ wr.cell? ⟨w.heap.size, 2, none⟩ = some (.int .i64 x1) ∧ wr.cell? ⟨w.heap.size, 3, none⟩ = some (.int .i64 y1) ∧ wr.cell? ⟨ba, 0, none⟩ = some (.int .i64 x0) ∧ wr.cell? ⟨ba, 1, none⟩ = some (.int .i64 y0) ∧ wr.cell? ⟨ba, 2, none⟩ = some (.int .i64 x1) ∧ wr.cell? ⟨ba, 3, none⟩ = some (.int .i64 y1) ∧ wr.cell? ⟨ba, 4, none⟩ = some (.int .i64 rt) ∧ wr.cell? ⟨ba, 5, none⟩ = some (.int .i64 wd) ∧ wr.cell? ⟨ba, 6, none⟩ = some (.int .i64 cw) ∧ wr.cell? ⟨ba, 7, none⟩ = some (.int .i64 wd) ∧ wr.cell? ⟨ba, 8, none⟩ = some (.slice E1 z1.length e1) ∧ wr.cell? ⟨ba, 9, none⟩ = some (.slice E2 z2.length e2) ∧ wr.cell? ⟨ba, 10, none⟩ = some (.slice E3 z2.length e3) ∧ wr.cell? ⟨ba, 11, none⟩ = some (.slice E4 z1.length e4))) (fun xv _ => (x1 - intOf xv).toNat)
      case atStart => exact ⟨x0, rfl, Int.le_refl _, by omega, KR⟩
      case round =>
        obtain ⟨u, rfl, u1, u2, KR'⟩ := hrel
        clear KR R0 R1 R2 R3 M0 M1 M2 M3 M4 M5 M6 M7 M8 M9 M10 M11 hB
        have KR := KR'
        clear KR'
        obtain ⟨hB, R0, R1, R2, R3, M0, M1, M2, M3, M4, M5, M6, M7, M8, M9, M10, M11⟩ := id KR.out
        by_cases hjl : u < x1
        · have hI : Insd x0 y0 x1 y1 u e := ⟨u1, hjl, h1, hlt⟩
          have hO : Hid (Okay x0 y0 x1 y1 rt wd cw wd u e) := ⟨hFF.out, hI, hQ.out.1, hQ.out.2, m1, m2⟩
          have hT := Lib.hid (hA.out u e hI)
          go_wp2_with fail
          refine (there_any x0 y0 x1 y1 rt wd cw wd E1 E2 E3 E4 e1 e2 e3 e4 z1 z2 z2 z1 u e _ hO true (by simp [hT.out])).mono ?_
          rintro e' w2 ⟨rfl, hb2⟩
          have KR2 : Hid (Below w.heap.size w w2 ∧ w2.cell? ⟨w.heap.size, 0, none⟩ = some (.int .i64 x0) ∧ w2.cell? ⟨w.heap.size, 1, none⟩ = some (.int .i64 y0) ∧ w2.cell? ⟨w.heap.size, 2, none⟩ = some (.int .i64 x1) ∧ w2.cell? ⟨w.heap.size, 3, none⟩ = some (.int .i64 y1) ∧ w2.cell? ⟨ba, 0, none⟩ = some (.int .i64 x0) ∧ w2.cell? ⟨ba, 1, none⟩ = some (.int .i64 y0) ∧ w2.cell? ⟨ba, 2, none⟩ = some (.int .i64 x1) ∧ w2.cell? ⟨ba, 3, none⟩ = some (.int .i64 y1) ∧ w2.cell? ⟨ba, 4, none⟩ = some (.int .i64 rt) ∧ w2.cell? ⟨ba, 5, none⟩ = some (.int .i64 wd) ∧ w2.cell? ⟨ba, 6, none⟩ = some (.int .i64 cw) ∧ w2.cell? ⟨ba, 7, none⟩ = some (.int .i64 wd) ∧ w2.cell? ⟨ba, 8, none⟩ = some (.slice E1 z1.length e1) ∧ w2.cell? ⟨ba, 9, none⟩ = some (.slice E2 z2.length e2) ∧ w2.cell? ⟨ba, 10, none⟩ = some (.slice E3 z2.length e3) ∧ w2.cell? ⟨ba, 11, none⟩ = some (.slice E4 z1.length e4)) := ⟨hB.trans (hb2.mono hB.size), cell_kept R0 hb2, cell_kept R1 hb2, cell_kept R2 hb2, cell_kept R3 hb2, cell_kept M0 hb2, cell_kept M1 hb2, cell_kept M2 hb2, cell_kept M3 hb2, cell_kept M4 hb2, cell_kept M5 hb2, cell_kept M6 hb2, cell_kept M7 hb2, cell_kept M8 hb2, cell_kept M9 hb2, cell_kept M10 hb2, cell_kept M11 hb2⟩
          clear KR R0 R1 R2 R3 M0 M1 M2 M3 M4 M5 M6 M7 M8 M9 M10 M11 hB hb2
          obtain ⟨hB, R0, R1, R2, R3, M0, M1, M2, M3, M4, M5, M6, M7, M8, M9, M10, M11⟩ := id KR2.out
          go_wp2
          go_roundw
          case rel => exact ⟨u + 1, by go_num, by omega, by omega, KR2⟩
          case measure => simp [intOf]; omega
        · go_wp2
          go_roundw
          case rel => exact ⟨e + 1, by go_num, by omega, by omega, KR⟩
          case measure => simp [intOf]; omega
    · go_wp2
      go_ret
      exact ⟨by simp, hB⟩


theorem walk_new (x0 y0 x1 y1 rt : Int) (w : World) :
    Calls Try.prog 3 #[.agg #[.int .i64 x0, .int .i64 y0, .int .i64 x1, .int .i64 y1], .int .i64 rt] w fun e w' => e = .returned (.bool true) ∧ Below w.heap.size w w' := by
  by_cases hF : Fair x0 y0 x1 y1
  · by_cases hQ : 0 ≤ rt ∧ rt ≤ 5
    · by_cases m1 : 0 ≤ x0
      · by_cases m2 : 0 ≤ y0
        · by_cases m3 : (x1 - x0) * (y1 - y0) ≤ 4096
          · obtain ⟨wd, ht, cw, ch, a1, a2, a3, a4, a5, a6, a7, a8, a9, a10, a11⟩ := new_sizes (rt := rt) hF m1 m2
            exact new_go x0 y0 x1 y1 rt w hF hQ m1 m2 m3 wd ht cw ch a1 a2 a3 a4 a5 a6 a7 a8 a9 a10 a11
          · exact new_g4 x0 y0 x1 y1 rt w hF hQ m1 m2 (by omega)
        · exact new_g3 x0 y0 x1 y1 rt w hF hQ m1 (by omega)
      · exact new_g2 x0 y0 x1 y1 rt w hF hQ (by omega)
    · exact new_g1 x0 y0 x1 y1 rt w hF hQ
  · exact new_g0 x0 y0 x1 y1 rt w hF

end Go.Proofs.Ytcomldkihibfjaa
