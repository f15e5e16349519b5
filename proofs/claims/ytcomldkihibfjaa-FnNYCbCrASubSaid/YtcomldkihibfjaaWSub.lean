/- The walk of the law FnNYCbCrASub. -/
import Derived.Test.YtcomldkihibfjaaFilmISub
import Derived.Test.YtcomldkihibfjaaPlainFilm
import Derived.Test.YtcomldkihibfjaaCut
namespace Go.Proofs.Ytcomldkihibfjaa
open Go.RowKit
set_option linter.unusedVariables false
set_option linter.unusedSimpArgs false


set_option maxRecDepth 100000 in
set_option maxHeartbeats 2000000 in
theorem sub_g0 (x0 y0 x1 y1 rt ys cs at4 : Int) (A1 A2 A3 A4 : Option Addr) (c1 c2 c3 c4 : Nat) (z1 z2 z3 z4 : List Int) (a0 b0 a1 b1 x y : Int) (w : World) (hr1 : Hid (Reads w A1 z1)) (hl1 : Small z1) (hn1 : Hid (A1 = none → c1 = 0)) (hr2 : Hid (Reads w A2 z2)) (hl2 : Small z2) (hn2 : Hid (A2 = none → c2 = 0)) (hr3 : Hid (Reads w A3 z3)) (hl3 : Small z3) (hn3 : Hid (A3 = none → c3 = 0)) (hr4 : Hid (Reads w A4 z4)) (hl4 : Small z4) (hn4 : Hid (A4 = none → c4 = 0))  (hF : Hid (¬ (FairF x0 y0 x1 y1 ys cs at4))) :
    Calls Try.prog 4 #[.agg #[.int .i64 x0, .int .i64 y0, .int .i64 x1, .int .i64 y1, .int .i64 rt, .int .i64 ys, .int .i64 cs, .int .i64 at4, .slice A1 z1.length c1, .slice A2 z2.length c2, .slice A3 z3.length c3, .slice A4 z4.length c4], .agg #[.int .i64 a0, .int .i64 b0, .int .i64 a1, .int .i64 b1], .int .i64 x, .int .i64 y] w fun e w' => e = .returned (.bool true) ∧ Below w.heap.size w w' := by
  have hB : Below w.heap.size w ((w.alloc (.cells #[.int .i64 x0, .int .i64 y0, .int .i64 x1, .int .i64 y1, .int .i64 rt, .int .i64 ys, .int .i64 cs, .int .i64 at4, .slice A1 z1.length c1, .slice A2 z2.length c2, .slice A3 z3.length c3, .slice A4 z4.length c4] 30)).alloc (.cells #[.int .i64 a0, .int .i64 b0, .int .i64 a1, .int .i64 b1] 23)) := ((Below.refl _ _).alloc (Nat.le_refl _) _).alloc (by simp) _
  have D0 : ((w.alloc (.cells #[.int .i64 x0, .int .i64 y0, .int .i64 x1, .int .i64 y1, .int .i64 rt, .int .i64 ys, .int .i64 cs, .int .i64 at4, .slice A1 z1.length c1, .slice A2 z2.length c2, .slice A3 z3.length c3, .slice A4 z4.length c4] 30)).alloc (.cells #[.int .i64 a0, .int .i64 b0, .int .i64 a1, .int .i64 b1] 23)).cell? ⟨w.heap.size, 0, none⟩ = some (.int .i64 x0) := by first | (simp; done) | go_simp
  have D1 : ((w.alloc (.cells #[.int .i64 x0, .int .i64 y0, .int .i64 x1, .int .i64 y1, .int .i64 rt, .int .i64 ys, .int .i64 cs, .int .i64 at4, .slice A1 z1.length c1, .slice A2 z2.length c2, .slice A3 z3.length c3, .slice A4 z4.length c4] 30)).alloc (.cells #[.int .i64 a0, .int .i64 b0, .int .i64 a1, .int .i64 b1] 23)).cell? ⟨w.heap.size, 1, none⟩ = some (.int .i64 y0) := by first | (simp; done) | go_simp
  have D2 : ((w.alloc (.cells #[.int .i64 x0, .int .i64 y0, .int .i64 x1, .int .i64 y1, .int .i64 rt, .int .i64 ys, .int .i64 cs, .int .i64 at4, .slice A1 z1.length c1, .slice A2 z2.length c2, .slice A3 z3.length c3, .slice A4 z4.length c4] 30)).alloc (.cells #[.int .i64 a0, .int .i64 b0, .int .i64 a1, .int .i64 b1] 23)).cell? ⟨w.heap.size, 2, none⟩ = some (.int .i64 x1) := by first | (simp; done) | go_simp
  have D3 : ((w.alloc (.cells #[.int .i64 x0, .int .i64 y0, .int .i64 x1, .int .i64 y1, .int .i64 rt, .int .i64 ys, .int .i64 cs, .int .i64 at4, .slice A1 z1.length c1, .slice A2 z2.length c2, .slice A3 z3.length c3, .slice A4 z4.length c4] 30)).alloc (.cells #[.int .i64 a0, .int .i64 b0, .int .i64 a1, .int .i64 b1] 23)).cell? ⟨w.heap.size, 3, none⟩ = some (.int .i64 y1) := by first | (simp; done) | go_simp
  have D4 : ((w.alloc (.cells #[.int .i64 x0, .int .i64 y0, .int .i64 x1, .int .i64 y1, .int .i64 rt, .int .i64 ys, .int .i64 cs, .int .i64 at4, .slice A1 z1.length c1, .slice A2 z2.length c2, .slice A3 z3.length c3, .slice A4 z4.length c4] 30)).alloc (.cells #[.int .i64 a0, .int .i64 b0, .int .i64 a1, .int .i64 b1] 23)).cell? ⟨w.heap.size, 4, none⟩ = some (.int .i64 rt) := by first | (simp; done) | go_simp
  have D5 : ((w.alloc (.cells #[.int .i64 x0, .int .i64 y0, .int .i64 x1, .int .i64 y1, .int .i64 rt, .int .i64 ys, .int .i64 cs, .int .i64 at4, .slice A1 z1.length c1, .slice A2 z2.length c2, .slice A3 z3.length c3, .slice A4 z4.length c4] 30)).alloc (.cells #[.int .i64 a0, .int .i64 b0, .int .i64 a1, .int .i64 b1] 23)).cell? ⟨w.heap.size, 5, none⟩ = some (.int .i64 ys) := by first | (simp; done) | go_simp
  have D6 : ((w.alloc (.cells #[.int .i64 x0, .int .i64 y0, .int .i64 x1, .int .i64 y1, .int .i64 rt, .int .i64 ys, .int .i64 cs, .int .i64 at4, .slice A1 z1.length c1, .slice A2 z2.length c2, .slice A3 z3.length c3, .slice A4 z4.length c4] 30)).alloc (.cells #[.int .i64 a0, .int .i64 b0, .int .i64 a1, .int .i64 b1] 23)).cell? ⟨w.heap.size, 6, none⟩ = some (.int .i64 cs) := by first | (simp; done) | go_simp
  have D7 : ((w.alloc (.cells #[.int .i64 x0, .int .i64 y0, .int .i64 x1, .int .i64 y1, .int .i64 rt, .int .i64 ys, .int .i64 cs, .int .i64 at4, .slice A1 z1.length c1, .slice A2 z2.length c2, .slice A3 z3.length c3, .slice A4 z4.length c4] 30)).alloc (.cells #[.int .i64 a0, .int .i64 b0, .int .i64 a1, .int .i64 b1] 23)).cell? ⟨w.heap.size, 7, none⟩ = some (.int .i64 at4) := by first | (simp; done) | go_simp
  have D8 : ((w.alloc (.cells #[.int .i64 x0, .int .i64 y0, .int .i64 x1, .int .i64 y1, .int .i64 rt, .int .i64 ys, .int .i64 cs, .int .i64 at4, .slice A1 z1.length c1, .slice A2 z2.length c2, .slice A3 z3.length c3, .slice A4 z4.length c4] 30)).alloc (.cells #[.int .i64 a0, .int .i64 b0, .int .i64 a1, .int .i64 b1] 23)).cell? ⟨w.heap.size, 8, none⟩ = some (.slice A1 z1.length c1) := by first | (simp; done) | go_simp
  have D9 : ((w.alloc (.cells #[.int .i64 x0, .int .i64 y0, .int .i64 x1, .int .i64 y1, .int .i64 rt, .int .i64 ys, .int .i64 cs, .int .i64 at4, .slice A1 z1.length c1, .slice A2 z2.length c2, .slice A3 z3.length c3, .slice A4 z4.length c4] 30)).alloc (.cells #[.int .i64 a0, .int .i64 b0, .int .i64 a1, .int .i64 b1] 23)).cell? ⟨w.heap.size, 9, none⟩ = some (.slice A2 z2.length c2) := by first | (simp; done) | go_simp
  have D10 : ((w.alloc (.cells #[.int .i64 x0, .int .i64 y0, .int .i64 x1, .int .i64 y1, .int .i64 rt, .int .i64 ys, .int .i64 cs, .int .i64 at4, .slice A1 z1.length c1, .slice A2 z2.length c2, .slice A3 z3.length c3, .slice A4 z4.length c4] 30)).alloc (.cells #[.int .i64 a0, .int .i64 b0, .int .i64 a1, .int .i64 b1] 23)).cell? ⟨w.heap.size, 10, none⟩ = some (.slice A3 z3.length c3) := by first | (simp; done) | go_simp
  have D11 : ((w.alloc (.cells #[.int .i64 x0, .int .i64 y0, .int .i64 x1, .int .i64 y1, .int .i64 rt, .int .i64 ys, .int .i64 cs, .int .i64 at4, .slice A1 z1.length c1, .slice A2 z2.length c2, .slice A3 z3.length c3, .slice A4 z4.length c4] 30)).alloc (.cells #[.int .i64 a0, .int .i64 b0, .int .i64 a1, .int .i64 b1] 23)).cell? ⟨w.heap.size, 11, none⟩ = some (.slice A4 z4.length c4) := by first | (simp; done) | go_simp
  have R0 : ((w.alloc (.cells #[.int .i64 x0, .int .i64 y0, .int .i64 x1, .int .i64 y1, .int .i64 rt, .int .i64 ys, .int .i64 cs, .int .i64 at4, .slice A1 z1.length c1, .slice A2 z2.length c2, .slice A3 z3.length c3, .slice A4 z4.length c4] 30)).alloc (.cells #[.int .i64 a0, .int .i64 b0, .int .i64 a1, .int .i64 b1] 23)).cell? ⟨w.heap.size + 1, 0, none⟩ = some (.int .i64 a0) := by first | (simp; done) | go_simp
  have R1 : ((w.alloc (.cells #[.int .i64 x0, .int .i64 y0, .int .i64 x1, .int .i64 y1, .int .i64 rt, .int .i64 ys, .int .i64 cs, .int .i64 at4, .slice A1 z1.length c1, .slice A2 z2.length c2, .slice A3 z3.length c3, .slice A4 z4.length c4] 30)).alloc (.cells #[.int .i64 a0, .int .i64 b0, .int .i64 a1, .int .i64 b1] 23)).cell? ⟨w.heap.size + 1, 1, none⟩ = some (.int .i64 b0) := by first | (simp; done) | go_simp
  have R2 : ((w.alloc (.cells #[.int .i64 x0, .int .i64 y0, .int .i64 x1, .int .i64 y1, .int .i64 rt, .int .i64 ys, .int .i64 cs, .int .i64 at4, .slice A1 z1.length c1, .slice A2 z2.length c2, .slice A3 z3.length c3, .slice A4 z4.length c4] 30)).alloc (.cells #[.int .i64 a0, .int .i64 b0, .int .i64 a1, .int .i64 b1] 23)).cell? ⟨w.heap.size + 1, 2, none⟩ = some (.int .i64 a1) := by first | (simp; done) | go_simp
  have R3 : ((w.alloc (.cells #[.int .i64 x0, .int .i64 y0, .int .i64 x1, .int .i64 y1, .int .i64 rt, .int .i64 ys, .int .i64 cs, .int .i64 at4, .slice A1 z1.length c1, .slice A2 z2.length c2, .slice A3 z3.length c3, .slice A4 z4.length c4] 30)).alloc (.cells #[.int .i64 a0, .int .i64 b0, .int .i64 a1, .int .i64 b1] 23)).cell? ⟨w.heap.size + 1, 3, none⟩ = some (.int .i64 b1) := by first | (simp; done) | go_simp
  have HR1 := Lib.hid (hr1.out.below hB)
  have HR2 := Lib.hid (hr2.out.below hB)
  have HR3 := Lib.hid (hr3.out.below hB)
  have HR4 := Lib.hid (hr4.out.below hB)
  go_enter Try.func4, Try.ntmps4
  go_wp2_with fail
  generalize (w.alloc (.cells #[.int .i64 x0, .int .i64 y0, .int .i64 x1, .int .i64 y1, .int .i64 rt, .int .i64 ys, .int .i64 cs, .int .i64 at4, .slice A1 z1.length c1, .slice A2 z2.length c2, .slice A3 z3.length c3, .slice A4 z4.length c4] 30)).alloc (.cells #[.int .i64 a0, .int .i64 b0, .int .i64 a1, .int .i64 b1] 23) = W0 at *
  generalize w.heap.size + 1 = br at *
  go_wp2_with fail
  refine (fairF_any x0 y0 x1 y1 rt ys cs at4 A1 A2 A3 A4 c1 c2 c3 c4 z1 z2 z3 z4 false (by simp [hF.out]) _).mono ?_
  rintro e w1 ⟨rfl, hb1⟩
  replace D0 := cell_kept D0 hb1
  replace D1 := cell_kept D1 hb1
  replace D2 := cell_kept D2 hb1
  replace D3 := cell_kept D3 hb1
  replace D4 := cell_kept D4 hb1
  replace D5 := cell_kept D5 hb1
  replace D6 := cell_kept D6 hb1
  replace D7 := cell_kept D7 hb1
  replace D8 := cell_kept D8 hb1
  replace D9 := cell_kept D9 hb1
  replace D10 := cell_kept D10 hb1
  replace D11 := cell_kept D11 hb1
  replace R0 := cell_kept R0 hb1
  replace R1 := cell_kept R1 hb1
  replace R2 := cell_kept R2 hb1
  replace R3 := cell_kept R3 hb1
  replace HR1 := Lib.hid (HR1.out.below hb1)
  replace HR2 := Lib.hid (HR2.out.below hb1)
  replace HR3 := Lib.hid (HR3.out.below hb1)
  replace HR4 := Lib.hid (HR4.out.below hb1)
  replace hB := hB.trans (hb1.mono hB.size)
  clear hb1
  go_wp2
  go_ret
  exact ⟨by simp, hB⟩

set_option maxRecDepth 100000 in
set_option maxHeartbeats 2000000 in
theorem sub_g1 (x0 y0 x1 y1 rt ys cs at4 : Int) (A1 A2 A3 A4 : Option Addr) (c1 c2 c3 c4 : Nat) (z1 z2 z3 z4 : List Int) (a0 b0 a1 b1 x y : Int) (w : World) (hr1 : Hid (Reads w A1 z1)) (hl1 : Small z1) (hn1 : Hid (A1 = none → c1 = 0)) (hr2 : Hid (Reads w A2 z2)) (hl2 : Small z2) (hn2 : Hid (A2 = none → c2 = 0)) (hr3 : Hid (Reads w A3 z3)) (hl3 : Small z3) (hn3 : Hid (A3 = none → c3 = 0)) (hr4 : Hid (Reads w A4 z4)) (hl4 : Small z4) (hn4 : Hid (A4 = none → c4 = 0)) (hF : Hid (FairF x0 y0 x1 y1 ys cs at4)) (hN : Hid (¬ (Near4 a0 b0 a1 b1))) :
    Calls Try.prog 4 #[.agg #[.int .i64 x0, .int .i64 y0, .int .i64 x1, .int .i64 y1, .int .i64 rt, .int .i64 ys, .int .i64 cs, .int .i64 at4, .slice A1 z1.length c1, .slice A2 z2.length c2, .slice A3 z3.length c3, .slice A4 z4.length c4], .agg #[.int .i64 a0, .int .i64 b0, .int .i64 a1, .int .i64 b1], .int .i64 x, .int .i64 y] w fun e w' => e = .returned (.bool true) ∧ Below w.heap.size w w' := by
  have hB : Below w.heap.size w ((w.alloc (.cells #[.int .i64 x0, .int .i64 y0, .int .i64 x1, .int .i64 y1, .int .i64 rt, .int .i64 ys, .int .i64 cs, .int .i64 at4, .slice A1 z1.length c1, .slice A2 z2.length c2, .slice A3 z3.length c3, .slice A4 z4.length c4] 30)).alloc (.cells #[.int .i64 a0, .int .i64 b0, .int .i64 a1, .int .i64 b1] 23)) := ((Below.refl _ _).alloc (Nat.le_refl _) _).alloc (by simp) _
  have D0 : ((w.alloc (.cells #[.int .i64 x0, .int .i64 y0, .int .i64 x1, .int .i64 y1, .int .i64 rt, .int .i64 ys, .int .i64 cs, .int .i64 at4, .slice A1 z1.length c1, .slice A2 z2.length c2, .slice A3 z3.length c3, .slice A4 z4.length c4] 30)).alloc (.cells #[.int .i64 a0, .int .i64 b0, .int .i64 a1, .int .i64 b1] 23)).cell? ⟨w.heap.size, 0, none⟩ = some (.int .i64 x0) := by first | (simp; done) | go_simp
  have D1 : ((w.alloc (.cells #[.int .i64 x0, .int .i64 y0, .int .i64 x1, .int .i64 y1, .int .i64 rt, .int .i64 ys, .int .i64 cs, .int .i64 at4, .slice A1 z1.length c1, .slice A2 z2.length c2, .slice A3 z3.length c3, .slice A4 z4.length c4] 30)).alloc (.cells #[.int .i64 a0, .int .i64 b0, .int .i64 a1, .int .i64 b1] 23)).cell? ⟨w.heap.size, 1, none⟩ = some (.int .i64 y0) := by first | (simp; done) | go_simp
  have D2 : ((w.alloc (.cells #[.int .i64 x0, .int .i64 y0, .int .i64 x1, .int .i64 y1, .int .i64 rt, .int .i64 ys, .int .i64 cs, .int .i64 at4, .slice A1 z1.length c1, .slice A2 z2.length c2, .slice A3 z3.length c3, .slice A4 z4.length c4] 30)).alloc (.cells #[.int .i64 a0, .int .i64 b0, .int .i64 a1, .int .i64 b1] 23)).cell? ⟨w.heap.size, 2, none⟩ = some (.int .i64 x1) := by first | (simp; done) | go_simp
  have D3 : ((w.alloc (.cells #[.int .i64 x0, .int .i64 y0, .int .i64 x1, .int .i64 y1, .int .i64 rt, .int .i64 ys, .int .i64 cs, .int .i64 at4, .slice A1 z1.length c1, .slice A2 z2.length c2, .slice A3 z3.length c3, .slice A4 z4.length c4] 30)).alloc (.cells #[.int .i64 a0, .int .i64 b0, .int .i64 a1, .int .i64 b1] 23)).cell? ⟨w.heap.size, 3, none⟩ = some (.int .i64 y1) := by first | (simp; done) | go_simp
  have D4 : ((w.alloc (.cells #[.int .i64 x0, .int .i64 y0, .int .i64 x1, .int .i64 y1, .int .i64 rt, .int .i64 ys, .int .i64 cs, .int .i64 at4, .slice A1 z1.length c1, .slice A2 z2.length c2, .slice A3 z3.length c3, .slice A4 z4.length c4] 30)).alloc (.cells #[.int .i64 a0, .int .i64 b0, .int .i64 a1, .int .i64 b1] 23)).cell? ⟨w.heap.size, 4, none⟩ = some (.int .i64 rt) := by first | (simp; done) | go_simp
  have D5 : ((w.alloc (.cells #[.int .i64 x0, .int .i64 y0, .int .i64 x1, .int .i64 y1, .int .i64 rt, .int .i64 ys, .int .i64 cs, .int .i64 at4, .slice A1 z1.length c1, .slice A2 z2.length c2, .slice A3 z3.length c3, .slice A4 z4.length c4] 30)).alloc (.cells #[.int .i64 a0, .int .i64 b0, .int .i64 a1, .int .i64 b1] 23)).cell? ⟨w.heap.size, 5, none⟩ = some (.int .i64 ys) := by first | (simp; done) | go_simp
  have D6 : ((w.alloc (.cells #[.int .i64 x0, .int .i64 y0, .int .i64 x1, .int .i64 y1, .int .i64 rt, .int .i64 ys, .int .i64 cs, .int .i64 at4, .slice A1 z1.length c1, .slice A2 z2.length c2, .slice A3 z3.length c3, .slice A4 z4.length c4] 30)).alloc (.cells #[.int .i64 a0, .int .i64 b0, .int .i64 a1, .int .i64 b1] 23)).cell? ⟨w.heap.size, 6, none⟩ = some (.int .i64 cs) := by first | (simp; done) | go_simp
  have D7 : ((w.alloc (.cells #[.int .i64 x0, .int .i64 y0, .int .i64 x1, .int .i64 y1, .int .i64 rt, .int .i64 ys, .int .i64 cs, .int .i64 at4, .slice A1 z1.length c1, .slice A2 z2.length c2, .slice A3 z3.length c3, .slice A4 z4.length c4] 30)).alloc (.cells #[.int .i64 a0, .int .i64 b0, .int .i64 a1, .int .i64 b1] 23)).cell? ⟨w.heap.size, 7, none⟩ = some (.int .i64 at4) := by first | (simp; done) | go_simp
  have D8 : ((w.alloc (.cells #[.int .i64 x0, .int .i64 y0, .int .i64 x1, .int .i64 y1, .int .i64 rt, .int .i64 ys, .int .i64 cs, .int .i64 at4, .slice A1 z1.length c1, .slice A2 z2.length c2, .slice A3 z3.length c3, .slice A4 z4.length c4] 30)).alloc (.cells #[.int .i64 a0, .int .i64 b0, .int .i64 a1, .int .i64 b1] 23)).cell? ⟨w.heap.size, 8, none⟩ = some (.slice A1 z1.length c1) := by first | (simp; done) | go_simp
  have D9 : ((w.alloc (.cells #[.int .i64 x0, .int .i64 y0, .int .i64 x1, .int .i64 y1, .int .i64 rt, .int .i64 ys, .int .i64 cs, .int .i64 at4, .slice A1 z1.length c1, .slice A2 z2.length c2, .slice A3 z3.length c3, .slice A4 z4.length c4] 30)).alloc (.cells #[.int .i64 a0, .int .i64 b0, .int .i64 a1, .int .i64 b1] 23)).cell? ⟨w.heap.size, 9, none⟩ = some (.slice A2 z2.length c2) := by first | (simp; done) | go_simp
  have D10 : ((w.alloc (.cells #[.int .i64 x0, .int .i64 y0, .int .i64 x1, .int .i64 y1, .int .i64 rt, .int .i64 ys, .int .i64 cs, .int .i64 at4, .slice A1 z1.length c1, .slice A2 z2.length c2, .slice A3 z3.length c3, .slice A4 z4.length c4] 30)).alloc (.cells #[.int .i64 a0, .int .i64 b0, .int .i64 a1, .int .i64 b1] 23)).cell? ⟨w.heap.size, 10, none⟩ = some (.slice A3 z3.length c3) := by first | (simp; done) | go_simp
  have D11 : ((w.alloc (.cells #[.int .i64 x0, .int .i64 y0, .int .i64 x1, .int .i64 y1, .int .i64 rt, .int .i64 ys, .int .i64 cs, .int .i64 at4, .slice A1 z1.length c1, .slice A2 z2.length c2, .slice A3 z3.length c3, .slice A4 z4.length c4] 30)).alloc (.cells #[.int .i64 a0, .int .i64 b0, .int .i64 a1, .int .i64 b1] 23)).cell? ⟨w.heap.size, 11, none⟩ = some (.slice A4 z4.length c4) := by first | (simp; done) | go_simp
  have R0 : ((w.alloc (.cells #[.int .i64 x0, .int .i64 y0, .int .i64 x1, .int .i64 y1, .int .i64 rt, .int .i64 ys, .int .i64 cs, .int .i64 at4, .slice A1 z1.length c1, .slice A2 z2.length c2, .slice A3 z3.length c3, .slice A4 z4.length c4] 30)).alloc (.cells #[.int .i64 a0, .int .i64 b0, .int .i64 a1, .int .i64 b1] 23)).cell? ⟨w.heap.size + 1, 0, none⟩ = some (.int .i64 a0) := by first | (simp; done) | go_simp
  have R1 : ((w.alloc (.cells #[.int .i64 x0, .int .i64 y0, .int .i64 x1, .int .i64 y1, .int .i64 rt, .int .i64 ys, .int .i64 cs, .int .i64 at4, .slice A1 z1.length c1, .slice A2 z2.length c2, .slice A3 z3.length c3, .slice A4 z4.length c4] 30)).alloc (.cells #[.int .i64 a0, .int .i64 b0, .int .i64 a1, .int .i64 b1] 23)).cell? ⟨w.heap.size + 1, 1, none⟩ = some (.int .i64 b0) := by first | (simp; done) | go_simp
  have R2 : ((w.alloc (.cells #[.int .i64 x0, .int .i64 y0, .int .i64 x1, .int .i64 y1, .int .i64 rt, .int .i64 ys, .int .i64 cs, .int .i64 at4, .slice A1 z1.length c1, .slice A2 z2.length c2, .slice A3 z3.length c3, .slice A4 z4.length c4] 30)).alloc (.cells #[.int .i64 a0, .int .i64 b0, .int .i64 a1, .int .i64 b1] 23)).cell? ⟨w.heap.size + 1, 2, none⟩ = some (.int .i64 a1) := by first | (simp; done) | go_simp
  have R3 : ((w.alloc (.cells #[.int .i64 x0, .int .i64 y0, .int .i64 x1, .int .i64 y1, .int .i64 rt, .int .i64 ys, .int .i64 cs, .int .i64 at4, .slice A1 z1.length c1, .slice A2 z2.length c2, .slice A3 z3.length c3, .slice A4 z4.length c4] 30)).alloc (.cells #[.int .i64 a0, .int .i64 b0, .int .i64 a1, .int .i64 b1] 23)).cell? ⟨w.heap.size + 1, 3, none⟩ = some (.int .i64 b1) := by first | (simp; done) | go_simp
  have HR1 := Lib.hid (hr1.out.below hB)
  have HR2 := Lib.hid (hr2.out.below hB)
  have HR3 := Lib.hid (hr3.out.below hB)
  have HR4 := Lib.hid (hr4.out.below hB)
  go_enter Try.func4, Try.ntmps4
  go_wp2_with fail
  generalize (w.alloc (.cells #[.int .i64 x0, .int .i64 y0, .int .i64 x1, .int .i64 y1, .int .i64 rt, .int .i64 ys, .int .i64 cs, .int .i64 at4, .slice A1 z1.length c1, .slice A2 z2.length c2, .slice A3 z3.length c3, .slice A4 z4.length c4] 30)).alloc (.cells #[.int .i64 a0, .int .i64 b0, .int .i64 a1, .int .i64 b1] 23) = W0 at *
  generalize w.heap.size + 1 = br at *
  go_wp2_with fail
  refine (fairF_any x0 y0 x1 y1 rt ys cs at4 A1 A2 A3 A4 c1 c2 c3 c4 z1 z2 z3 z4 true (by simp [hF.out]) _).mono ?_
  rintro e w1 ⟨rfl, hb1⟩
  replace D0 := cell_kept D0 hb1
  replace D1 := cell_kept D1 hb1
  replace D2 := cell_kept D2 hb1
  replace D3 := cell_kept D3 hb1
  replace D4 := cell_kept D4 hb1
  replace D5 := cell_kept D5 hb1
  replace D6 := cell_kept D6 hb1
  replace D7 := cell_kept D7 hb1
  replace D8 := cell_kept D8 hb1
  replace D9 := cell_kept D9 hb1
  replace D10 := cell_kept D10 hb1
  replace D11 := cell_kept D11 hb1
  replace R0 := cell_kept R0 hb1
  replace R1 := cell_kept R1 hb1
  replace R2 := cell_kept R2 hb1
  replace R3 := cell_kept R3 hb1
  replace HR1 := Lib.hid (HR1.out.below hb1)
  replace HR2 := Lib.hid (HR2.out.below hb1)
  replace HR3 := Lib.hid (HR3.out.below hb1)
  replace HR4 := Lib.hid (HR4.out.below hb1)
  replace hB := hB.trans (hb1.mono hB.size)
  clear hb1
  go_wp2_with fail
  refine (box_any a0 b0 a1 b1 _).mono ?_
  rintro e w2 ⟨rfl, hb2⟩
  replace D0 := cell_kept D0 hb2
  replace D1 := cell_kept D1 hb2
  replace D2 := cell_kept D2 hb2
  replace D3 := cell_kept D3 hb2
  replace D4 := cell_kept D4 hb2
  replace D5 := cell_kept D5 hb2
  replace D6 := cell_kept D6 hb2
  replace D7 := cell_kept D7 hb2
  replace D8 := cell_kept D8 hb2
  replace D9 := cell_kept D9 hb2
  replace D10 := cell_kept D10 hb2
  replace D11 := cell_kept D11 hb2
  replace R0 := cell_kept R0 hb2
  replace R1 := cell_kept R1 hb2
  replace R2 := cell_kept R2 hb2
  replace R3 := cell_kept R3 hb2
  replace HR1 := Lib.hid (HR1.out.below hb2)
  replace HR2 := Lib.hid (HR2.out.below hb2)
  replace HR3 := Lib.hid (HR3.out.below hb2)
  replace HR4 := Lib.hid (HR4.out.below hb2)
  replace hB := hB.trans (hb2.mono hB.size)
  clear hb2
  go_wp2_with fail
  refine (near4_any a0 b0 a1 b1 false (by simp [hN.out]) _).mono ?_
  rintro e w3 ⟨rfl, hb3⟩
  replace D0 := cell_kept D0 hb3
  replace D1 := cell_kept D1 hb3
  replace D2 := cell_kept D2 hb3
  replace D3 := cell_kept D3 hb3
  replace D4 := cell_kept D4 hb3
  replace D5 := cell_kept D5 hb3
  replace D6 := cell_kept D6 hb3
  replace D7 := cell_kept D7 hb3
  replace D8 := cell_kept D8 hb3
  replace D9 := cell_kept D9 hb3
  replace D10 := cell_kept D10 hb3
  replace D11 := cell_kept D11 hb3
  replace R0 := cell_kept R0 hb3
  replace R1 := cell_kept R1 hb3
  replace R2 := cell_kept R2 hb3
  replace R3 := cell_kept R3 hb3
  replace HR1 := Lib.hid (HR1.out.below hb3)
  replace HR2 := Lib.hid (HR2.out.below hb3)
  replace HR3 := Lib.hid (HR3.out.below hb3)
  replace HR4 := Lib.hid (HR4.out.below hb3)
  replace hB := hB.trans (hb3.mono hB.size)
  clear hb3
  go_wp2
  go_ret
  exact ⟨by simp, hB⟩

set_option maxRecDepth 100000 in
set_option maxHeartbeats 2000000 in
theorem sub_g2 (x0 y0 x1 y1 rt ys cs at4 : Int) (A1 A2 A3 A4 : Option Addr) (c1 c2 c3 c4 : Nat) (z1 z2 z3 z4 : List Int) (a0 b0 a1 b1 x y : Int) (w : World) (hr1 : Hid (Reads w A1 z1)) (hl1 : Small z1) (hn1 : Hid (A1 = none → c1 = 0)) (hr2 : Hid (Reads w A2 z2)) (hl2 : Small z2) (hn2 : Hid (A2 = none → c2 = 0)) (hr3 : Hid (Reads w A3 z3)) (hl3 : Small z3) (hn3 : Hid (A3 = none → c3 = 0)) (hr4 : Hid (Reads w A4 z4)) (hl4 : Small z4) (hn4 : Hid (A4 = none → c4 = 0)) (hF : Hid (FairF x0 y0 x1 y1 ys cs at4)) (hN : Hid (Near4 a0 b0 a1 b1)) (hQ : Hid (¬ (0 ≤ rt ∧ rt ≤ 5))) :
    Calls Try.prog 4 #[.agg #[.int .i64 x0, .int .i64 y0, .int .i64 x1, .int .i64 y1, .int .i64 rt, .int .i64 ys, .int .i64 cs, .int .i64 at4, .slice A1 z1.length c1, .slice A2 z2.length c2, .slice A3 z3.length c3, .slice A4 z4.length c4], .agg #[.int .i64 a0, .int .i64 b0, .int .i64 a1, .int .i64 b1], .int .i64 x, .int .i64 y] w fun e w' => e = .returned (.bool true) ∧ Below w.heap.size w w' := by
  have hB : Below w.heap.size w ((w.alloc (.cells #[.int .i64 x0, .int .i64 y0, .int .i64 x1, .int .i64 y1, .int .i64 rt, .int .i64 ys, .int .i64 cs, .int .i64 at4, .slice A1 z1.length c1, .slice A2 z2.length c2, .slice A3 z3.length c3, .slice A4 z4.length c4] 30)).alloc (.cells #[.int .i64 a0, .int .i64 b0, .int .i64 a1, .int .i64 b1] 23)) := ((Below.refl _ _).alloc (Nat.le_refl _) _).alloc (by simp) _
  have D0 : ((w.alloc (.cells #[.int .i64 x0, .int .i64 y0, .int .i64 x1, .int .i64 y1, .int .i64 rt, .int .i64 ys, .int .i64 cs, .int .i64 at4, .slice A1 z1.length c1, .slice A2 z2.length c2, .slice A3 z3.length c3, .slice A4 z4.length c4] 30)).alloc (.cells #[.int .i64 a0, .int .i64 b0, .int .i64 a1, .int .i64 b1] 23)).cell? ⟨w.heap.size, 0, none⟩ = some (.int .i64 x0) := by first | (simp; done) | go_simp
  have D1 : ((w.alloc (.cells #[.int .i64 x0, .int .i64 y0, .int .i64 x1, .int .i64 y1, .int .i64 rt, .int .i64 ys, .int .i64 cs, .int .i64 at4, .slice A1 z1.length c1, .slice A2 z2.length c2, .slice A3 z3.length c3, .slice A4 z4.length c4] 30)).alloc (.cells #[.int .i64 a0, .int .i64 b0, .int .i64 a1, .int .i64 b1] 23)).cell? ⟨w.heap.size, 1, none⟩ = some (.int .i64 y0) := by first | (simp; done) | go_simp
  have D2 : ((w.alloc (.cells #[.int .i64 x0, .int .i64 y0, .int .i64 x1, .int .i64 y1, .int .i64 rt, .int .i64 ys, .int .i64 cs, .int .i64 at4, .slice A1 z1.length c1, .slice A2 z2.length c2, .slice A3 z3.length c3, .slice A4 z4.length c4] 30)).alloc (.cells #[.int .i64 a0, .int .i64 b0, .int .i64 a1, .int .i64 b1] 23)).cell? ⟨w.heap.size, 2, none⟩ = some (.int .i64 x1) := by first | (simp; done) | go_simp
  have D3 : ((w.alloc (.cells #[.int .i64 x0, .int .i64 y0, .int .i64 x1, .int .i64 y1, .int .i64 rt, .int .i64 ys, .int .i64 cs, .int .i64 at4, .slice A1 z1.length c1, .slice A2 z2.length c2, .slice A3 z3.length c3, .slice A4 z4.length c4] 30)).alloc (.cells #[.int .i64 a0, .int .i64 b0, .int .i64 a1, .int .i64 b1] 23)).cell? ⟨w.heap.size, 3, none⟩ = some (.int .i64 y1) := by first | (simp; done) | go_simp
  have D4 : ((w.alloc (.cells #[.int .i64 x0, .int .i64 y0, .int .i64 x1, .int .i64 y1, .int .i64 rt, .int .i64 ys, .int .i64 cs, .int .i64 at4, .slice A1 z1.length c1, .slice A2 z2.length c2, .slice A3 z3.length c3, .slice A4 z4.length c4] 30)).alloc (.cells #[.int .i64 a0, .int .i64 b0, .int .i64 a1, .int .i64 b1] 23)).cell? ⟨w.heap.size, 4, none⟩ = some (.int .i64 rt) := by first | (simp; done) | go_simp
  have D5 : ((w.alloc (.cells #[.int .i64 x0, .int .i64 y0, .int .i64 x1, .int .i64 y1, .int .i64 rt, .int .i64 ys, .int .i64 cs, .int .i64 at4, .slice A1 z1.length c1, .slice A2 z2.length c2, .slice A3 z3.length c3, .slice A4 z4.length c4] 30)).alloc (.cells #[.int .i64 a0, .int .i64 b0, .int .i64 a1, .int .i64 b1] 23)).cell? ⟨w.heap.size, 5, none⟩ = some (.int .i64 ys) := by first | (simp; done) | go_simp
  have D6 : ((w.alloc (.cells #[.int .i64 x0, .int .i64 y0, .int .i64 x1, .int .i64 y1, .int .i64 rt, .int .i64 ys, .int .i64 cs, .int .i64 at4, .slice A1 z1.length c1, .slice A2 z2.length c2, .slice A3 z3.length c3, .slice A4 z4.length c4] 30)).alloc (.cells #[.int .i64 a0, .int .i64 b0, .int .i64 a1, .int .i64 b1] 23)).cell? ⟨w.heap.size, 6, none⟩ = some (.int .i64 cs) := by first | (simp; done) | go_simp
  have D7 : ((w.alloc (.cells #[.int .i64 x0, .int .i64 y0, .int .i64 x1, .int .i64 y1, .int .i64 rt, .int .i64 ys, .int .i64 cs, .int .i64 at4, .slice A1 z1.length c1, .slice A2 z2.length c2, .slice A3 z3.length c3, .slice A4 z4.length c4] 30)).alloc (.cells #[.int .i64 a0, .int .i64 b0, .int .i64 a1, .int .i64 b1] 23)).cell? ⟨w.heap.size, 7, none⟩ = some (.int .i64 at4) := by first | (simp; done) | go_simp
  have D8 : ((w.alloc (.cells #[.int .i64 x0, .int .i64 y0, .int .i64 x1, .int .i64 y1, .int .i64 rt, .int .i64 ys, .int .i64 cs, .int .i64 at4, .slice A1 z1.length c1, .slice A2 z2.length c2, .slice A3 z3.length c3, .slice A4 z4.length c4] 30)).alloc (.cells #[.int .i64 a0, .int .i64 b0, .int .i64 a1, .int .i64 b1] 23)).cell? ⟨w.heap.size, 8, none⟩ = some (.slice A1 z1.length c1) := by first | (simp; done) | go_simp
  have D9 : ((w.alloc (.cells #[.int .i64 x0, .int .i64 y0, .int .i64 x1, .int .i64 y1, .int .i64 rt, .int .i64 ys, .int .i64 cs, .int .i64 at4, .slice A1 z1.length c1, .slice A2 z2.length c2, .slice A3 z3.length c3, .slice A4 z4.length c4] 30)).alloc (.cells #[.int .i64 a0, .int .i64 b0, .int .i64 a1, .int .i64 b1] 23)).cell? ⟨w.heap.size, 9, none⟩ = some (.slice A2 z2.length c2) := by first | (simp; done) | go_simp
  have D10 : ((w.alloc (.cells #[.int .i64 x0, .int .i64 y0, .int .i64 x1, .int .i64 y1, .int .i64 rt, .int .i64 ys, .int .i64 cs, .int .i64 at4, .slice A1 z1.length c1, .slice A2 z2.length c2, .slice A3 z3.length c3, .slice A4 z4.length c4] 30)).alloc (.cells #[.int .i64 a0, .int .i64 b0, .int .i64 a1, .int .i64 b1] 23)).cell? ⟨w.heap.size, 10, none⟩ = some (.slice A3 z3.length c3) := by first | (simp; done) | go_simp
  have D11 : ((w.alloc (.cells #[.int .i64 x0, .int .i64 y0, .int .i64 x1, .int .i64 y1, .int .i64 rt, .int .i64 ys, .int .i64 cs, .int .i64 at4, .slice A1 z1.length c1, .slice A2 z2.length c2, .slice A3 z3.length c3, .slice A4 z4.length c4] 30)).alloc (.cells #[.int .i64 a0, .int .i64 b0, .int .i64 a1, .int .i64 b1] 23)).cell? ⟨w.heap.size, 11, none⟩ = some (.slice A4 z4.length c4) := by first | (simp; done) | go_simp
  have R0 : ((w.alloc (.cells #[.int .i64 x0, .int .i64 y0, .int .i64 x1, .int .i64 y1, .int .i64 rt, .int .i64 ys, .int .i64 cs, .int .i64 at4, .slice A1 z1.length c1, .slice A2 z2.length c2, .slice A3 z3.length c3, .slice A4 z4.length c4] 30)).alloc (.cells #[.int .i64 a0, .int .i64 b0, .int .i64 a1, .int .i64 b1] 23)).cell? ⟨w.heap.size + 1, 0, none⟩ = some (.int .i64 a0) := by first | (simp; done) | go_simp
  have R1 : ((w.alloc (.cells #[.int .i64 x0, .int .i64 y0, .int .i64 x1, .int .i64 y1, .int .i64 rt, .int .i64 ys, .int .i64 cs, .int .i64 at4, .slice A1 z1.length c1, .slice A2 z2.length c2, .slice A3 z3.length c3, .slice A4 z4.length c4] 30)).alloc (.cells #[.int .i64 a0, .int .i64 b0, .int .i64 a1, .int .i64 b1] 23)).cell? ⟨w.heap.size + 1, 1, none⟩ = some (.int .i64 b0) := by first | (simp; done) | go_simp
  have R2 : ((w.alloc (.cells #[.int .i64 x0, .int .i64 y0, .int .i64 x1, .int .i64 y1, .int .i64 rt, .int .i64 ys, .int .i64 cs, .int .i64 at4, .slice A1 z1.length c1, .slice A2 z2.length c2, .slice A3 z3.length c3, .slice A4 z4.length c4] 30)).alloc (.cells #[.int .i64 a0, .int .i64 b0, .int .i64 a1, .int .i64 b1] 23)).cell? ⟨w.heap.size + 1, 2, none⟩ = some (.int .i64 a1) := by first | (simp; done) | go_simp
  have R3 : ((w.alloc (.cells #[.int .i64 x0, .int .i64 y0, .int .i64 x1, .int .i64 y1, .int .i64 rt, .int .i64 ys, .int .i64 cs, .int .i64 at4, .slice A1 z1.length c1, .slice A2 z2.length c2, .slice A3 z3.length c3, .slice A4 z4.length c4] 30)).alloc (.cells #[.int .i64 a0, .int .i64 b0, .int .i64 a1, .int .i64 b1] 23)).cell? ⟨w.heap.size + 1, 3, none⟩ = some (.int .i64 b1) := by first | (simp; done) | go_simp
  have HR1 := Lib.hid (hr1.out.below hB)
  have HR2 := Lib.hid (hr2.out.below hB)
  have HR3 := Lib.hid (hr3.out.below hB)
  have HR4 := Lib.hid (hr4.out.below hB)
  go_enter Try.func4, Try.ntmps4
  go_wp2_with fail
  generalize (w.alloc (.cells #[.int .i64 x0, .int .i64 y0, .int .i64 x1, .int .i64 y1, .int .i64 rt, .int .i64 ys, .int .i64 cs, .int .i64 at4, .slice A1 z1.length c1, .slice A2 z2.length c2, .slice A3 z3.length c3, .slice A4 z4.length c4] 30)).alloc (.cells #[.int .i64 a0, .int .i64 b0, .int .i64 a1, .int .i64 b1] 23) = W0 at *
  generalize w.heap.size + 1 = br at *
  go_wp2_with fail
  refine (fairF_any x0 y0 x1 y1 rt ys cs at4 A1 A2 A3 A4 c1 c2 c3 c4 z1 z2 z3 z4 true (by simp [hF.out]) _).mono ?_
  rintro e w1 ⟨rfl, hb1⟩
  replace D0 := cell_kept D0 hb1
  replace D1 := cell_kept D1 hb1
  replace D2 := cell_kept D2 hb1
  replace D3 := cell_kept D3 hb1
  replace D4 := cell_kept D4 hb1
  replace D5 := cell_kept D5 hb1
  replace D6 := cell_kept D6 hb1
  replace D7 := cell_kept D7 hb1
  replace D8 := cell_kept D8 hb1
  replace D9 := cell_kept D9 hb1
  replace D10 := cell_kept D10 hb1
  replace D11 := cell_kept D11 hb1
  replace R0 := cell_kept R0 hb1
  replace R1 := cell_kept R1 hb1
  replace R2 := cell_kept R2 hb1
  replace R3 := cell_kept R3 hb1
  replace HR1 := Lib.hid (HR1.out.below hb1)
  replace HR2 := Lib.hid (HR2.out.below hb1)
  replace HR3 := Lib.hid (HR3.out.below hb1)
  replace HR4 := Lib.hid (HR4.out.below hb1)
  replace hB := hB.trans (hb1.mono hB.size)
  clear hb1
  go_wp2_with fail
  refine (box_any a0 b0 a1 b1 _).mono ?_
  rintro e w2 ⟨rfl, hb2⟩
  replace D0 := cell_kept D0 hb2
  replace D1 := cell_kept D1 hb2
  replace D2 := cell_kept D2 hb2
  replace D3 := cell_kept D3 hb2
  replace D4 := cell_kept D4 hb2
  replace D5 := cell_kept D5 hb2
  replace D6 := cell_kept D6 hb2
  replace D7 := cell_kept D7 hb2
  replace D8 := cell_kept D8 hb2
  replace D9 := cell_kept D9 hb2
  replace D10 := cell_kept D10 hb2
  replace D11 := cell_kept D11 hb2
  replace R0 := cell_kept R0 hb2
  replace R1 := cell_kept R1 hb2
  replace R2 := cell_kept R2 hb2
  replace R3 := cell_kept R3 hb2
  replace HR1 := Lib.hid (HR1.out.below hb2)
  replace HR2 := Lib.hid (HR2.out.below hb2)
  replace HR3 := Lib.hid (HR3.out.below hb2)
  replace HR4 := Lib.hid (HR4.out.below hb2)
  replace hB := hB.trans (hb2.mono hB.size)
  clear hb2
  go_wp2_with fail
  refine (near4_any a0 b0 a1 b1 true (by simp [hN.out]) _).mono ?_
  rintro e w3 ⟨rfl, hb3⟩
  replace D0 := cell_kept D0 hb3
  replace D1 := cell_kept D1 hb3
  replace D2 := cell_kept D2 hb3
  replace D3 := cell_kept D3 hb3
  replace D4 := cell_kept D4 hb3
  replace D5 := cell_kept D5 hb3
  replace D6 := cell_kept D6 hb3
  replace D7 := cell_kept D7 hb3
  replace D8 := cell_kept D8 hb3
  replace D9 := cell_kept D9 hb3
  replace D10 := cell_kept D10 hb3
  replace D11 := cell_kept D11 hb3
  replace R0 := cell_kept R0 hb3
  replace R1 := cell_kept R1 hb3
  replace R2 := cell_kept R2 hb3
  replace R3 := cell_kept R3 hb3
  replace HR1 := Lib.hid (HR1.out.below hb3)
  replace HR2 := Lib.hid (HR2.out.below hb3)
  replace HR3 := Lib.hid (HR3.out.below hb3)
  replace HR4 := Lib.hid (HR4.out.below hb3)
  replace hB := hB.trans (hb3.mono hB.size)
  clear hb3
  go_wp2_with fail
  refine (ratio_any rt false (by have := hQ.out; simp only [this]; simp) _).mono ?_
  rintro e w' ⟨rfl, rfl⟩
  go_wp2
  go_ret
  exact ⟨by simp, hB⟩

set_option maxRecDepth 100000 in
set_option maxHeartbeats 2000000 in
theorem sub_g3 (x0 y0 x1 y1 rt ys cs at4 : Int) (A1 A2 A3 A4 : Option Addr) (c1 c2 c3 c4 : Nat) (z1 z2 z3 z4 : List Int) (a0 b0 a1 b1 x y : Int) (w : World) (hr1 : Hid (Reads w A1 z1)) (hl1 : Small z1) (hn1 : Hid (A1 = none → c1 = 0)) (hr2 : Hid (Reads w A2 z2)) (hl2 : Small z2) (hn2 : Hid (A2 = none → c2 = 0)) (hr3 : Hid (Reads w A3 z3)) (hl3 : Small z3) (hn3 : Hid (A3 = none → c3 = 0)) (hr4 : Hid (Reads w A4 z4)) (hl4 : Small z4) (hn4 : Hid (A4 = none → c4 = 0)) (hF : Hid (FairF x0 y0 x1 y1 ys cs at4)) (hN : Hid (Near4 a0 b0 a1 b1)) (hQ : Hid (0 ≤ rt ∧ rt ≤ 5)) (m1 : x0 < 0) :
    Calls Try.prog 4 #[.agg #[.int .i64 x0, .int .i64 y0, .int .i64 x1, .int .i64 y1, .int .i64 rt, .int .i64 ys, .int .i64 cs, .int .i64 at4, .slice A1 z1.length c1, .slice A2 z2.length c2, .slice A3 z3.length c3, .slice A4 z4.length c4], .agg #[.int .i64 a0, .int .i64 b0, .int .i64 a1, .int .i64 b1], .int .i64 x, .int .i64 y] w fun e w' => e = .returned (.bool true) ∧ Below w.heap.size w w' := by
  have hB : Below w.heap.size w ((w.alloc (.cells #[.int .i64 x0, .int .i64 y0, .int .i64 x1, .int .i64 y1, .int .i64 rt, .int .i64 ys, .int .i64 cs, .int .i64 at4, .slice A1 z1.length c1, .slice A2 z2.length c2, .slice A3 z3.length c3, .slice A4 z4.length c4] 30)).alloc (.cells #[.int .i64 a0, .int .i64 b0, .int .i64 a1, .int .i64 b1] 23)) := ((Below.refl _ _).alloc (Nat.le_refl _) _).alloc (by simp) _
  have D0 : ((w.alloc (.cells #[.int .i64 x0, .int .i64 y0, .int .i64 x1, .int .i64 y1, .int .i64 rt, .int .i64 ys, .int .i64 cs, .int .i64 at4, .slice A1 z1.length c1, .slice A2 z2.length c2, .slice A3 z3.length c3, .slice A4 z4.length c4] 30)).alloc (.cells #[.int .i64 a0, .int .i64 b0, .int .i64 a1, .int .i64 b1] 23)).cell? ⟨w.heap.size, 0, none⟩ = some (.int .i64 x0) := by first | (simp; done) | go_simp
  have D1 : ((w.alloc (.cells #[.int .i64 x0, .int .i64 y0, .int .i64 x1, .int .i64 y1, .int .i64 rt, .int .i64 ys, .int .i64 cs, .int .i64 at4, .slice A1 z1.length c1, .slice A2 z2.length c2, .slice A3 z3.length c3, .slice A4 z4.length c4] 30)).alloc (.cells #[.int .i64 a0, .int .i64 b0, .int .i64 a1, .int .i64 b1] 23)).cell? ⟨w.heap.size, 1, none⟩ = some (.int .i64 y0) := by first | (simp; done) | go_simp
  have D2 : ((w.alloc (.cells #[.int .i64 x0, .int .i64 y0, .int .i64 x1, .int .i64 y1, .int .i64 rt, .int .i64 ys, .int .i64 cs, .int .i64 at4, .slice A1 z1.length c1, .slice A2 z2.length c2, .slice A3 z3.length c3, .slice A4 z4.length c4] 30)).alloc (.cells #[.int .i64 a0, .int .i64 b0, .int .i64 a1, .int .i64 b1] 23)).cell? ⟨w.heap.size, 2, none⟩ = some (.int .i64 x1) := by first | (simp; done) | go_simp
  have D3 : ((w.alloc (.cells #[.int .i64 x0, .int .i64 y0, .int .i64 x1, .int .i64 y1, .int .i64 rt, .int .i64 ys, .int .i64 cs, .int .i64 at4, .slice A1 z1.length c1, .slice A2 z2.length c2, .slice A3 z3.length c3, .slice A4 z4.length c4] 30)).alloc (.cells #[.int .i64 a0, .int .i64 b0, .int .i64 a1, .int .i64 b1] 23)).cell? ⟨w.heap.size, 3, none⟩ = some (.int .i64 y1) := by first | (simp; done) | go_simp
  have D4 : ((w.alloc (.cells #[.int .i64 x0, .int .i64 y0, .int .i64 x1, .int .i64 y1, .int .i64 rt, .int .i64 ys, .int .i64 cs, .int .i64 at4, .slice A1 z1.length c1, .slice A2 z2.length c2, .slice A3 z3.length c3, .slice A4 z4.length c4] 30)).alloc (.cells #[.int .i64 a0, .int .i64 b0, .int .i64 a1, .int .i64 b1] 23)).cell? ⟨w.heap.size, 4, none⟩ = some (.int .i64 rt) := by first | (simp; done) | go_simp
  have D5 : ((w.alloc (.cells #[.int .i64 x0, .int .i64 y0, .int .i64 x1, .int .i64 y1, .int .i64 rt, .int .i64 ys, .int .i64 cs, .int .i64 at4, .slice A1 z1.length c1, .slice A2 z2.length c2, .slice A3 z3.length c3, .slice A4 z4.length c4] 30)).alloc (.cells #[.int .i64 a0, .int .i64 b0, .int .i64 a1, .int .i64 b1] 23)).cell? ⟨w.heap.size, 5, none⟩ = some (.int .i64 ys) := by first | (simp; done) | go_simp
  have D6 : ((w.alloc (.cells #[.int .i64 x0, .int .i64 y0, .int .i64 x1, .int .i64 y1, .int .i64 rt, .int .i64 ys, .int .i64 cs, .int .i64 at4, .slice A1 z1.length c1, .slice A2 z2.length c2, .slice A3 z3.length c3, .slice A4 z4.length c4] 30)).alloc (.cells #[.int .i64 a0, .int .i64 b0, .int .i64 a1, .int .i64 b1] 23)).cell? ⟨w.heap.size, 6, none⟩ = some (.int .i64 cs) := by first | (simp; done) | go_simp
  have D7 : ((w.alloc (.cells #[.int .i64 x0, .int .i64 y0, .int .i64 x1, .int .i64 y1, .int .i64 rt, .int .i64 ys, .int .i64 cs, .int .i64 at4, .slice A1 z1.length c1, .slice A2 z2.length c2, .slice A3 z3.length c3, .slice A4 z4.length c4] 30)).alloc (.cells #[.int .i64 a0, .int .i64 b0, .int .i64 a1, .int .i64 b1] 23)).cell? ⟨w.heap.size, 7, none⟩ = some (.int .i64 at4) := by first | (simp; done) | go_simp
  have D8 : ((w.alloc (.cells #[.int .i64 x0, .int .i64 y0, .int .i64 x1, .int .i64 y1, .int .i64 rt, .int .i64 ys, .int .i64 cs, .int .i64 at4, .slice A1 z1.length c1, .slice A2 z2.length c2, .slice A3 z3.length c3, .slice A4 z4.length c4] 30)).alloc (.cells #[.int .i64 a0, .int .i64 b0, .int .i64 a1, .int .i64 b1] 23)).cell? ⟨w.heap.size, 8, none⟩ = some (.slice A1 z1.length c1) := by first | (simp; done) | go_simp
  have D9 : ((w.alloc (.cells #[.int .i64 x0, .int .i64 y0, .int .i64 x1, .int .i64 y1, .int .i64 rt, .int .i64 ys, .int .i64 cs, .int .i64 at4, .slice A1 z1.length c1, .slice A2 z2.length c2, .slice A3 z3.length c3, .slice A4 z4.length c4] 30)).alloc (.cells #[.int .i64 a0, .int .i64 b0, .int .i64 a1, .int .i64 b1] 23)).cell? ⟨w.heap.size, 9, none⟩ = some (.slice A2 z2.length c2) := by first | (simp; done) | go_simp
  have D10 : ((w.alloc (.cells #[.int .i64 x0, .int .i64 y0, .int .i64 x1, .int .i64 y1, .int .i64 rt, .int .i64 ys, .int .i64 cs, .int .i64 at4, .slice A1 z1.length c1, .slice A2 z2.length c2, .slice A3 z3.length c3, .slice A4 z4.length c4] 30)).alloc (.cells #[.int .i64 a0, .int .i64 b0, .int .i64 a1, .int .i64 b1] 23)).cell? ⟨w.heap.size, 10, none⟩ = some (.slice A3 z3.length c3) := by first | (simp; done) | go_simp
  have D11 : ((w.alloc (.cells #[.int .i64 x0, .int .i64 y0, .int .i64 x1, .int .i64 y1, .int .i64 rt, .int .i64 ys, .int .i64 cs, .int .i64 at4, .slice A1 z1.length c1, .slice A2 z2.length c2, .slice A3 z3.length c3, .slice A4 z4.length c4] 30)).alloc (.cells #[.int .i64 a0, .int .i64 b0, .int .i64 a1, .int .i64 b1] 23)).cell? ⟨w.heap.size, 11, none⟩ = some (.slice A4 z4.length c4) := by first | (simp; done) | go_simp
  have R0 : ((w.alloc (.cells #[.int .i64 x0, .int .i64 y0, .int .i64 x1, .int .i64 y1, .int .i64 rt, .int .i64 ys, .int .i64 cs, .int .i64 at4, .slice A1 z1.length c1, .slice A2 z2.length c2, .slice A3 z3.length c3, .slice A4 z4.length c4] 30)).alloc (.cells #[.int .i64 a0, .int .i64 b0, .int .i64 a1, .int .i64 b1] 23)).cell? ⟨w.heap.size + 1, 0, none⟩ = some (.int .i64 a0) := by first | (simp; done) | go_simp
  have R1 : ((w.alloc (.cells #[.int .i64 x0, .int .i64 y0, .int .i64 x1, .int .i64 y1, .int .i64 rt, .int .i64 ys, .int .i64 cs, .int .i64 at4, .slice A1 z1.length c1, .slice A2 z2.length c2, .slice A3 z3.length c3, .slice A4 z4.length c4] 30)).alloc (.cells #[.int .i64 a0, .int .i64 b0, .int .i64 a1, .int .i64 b1] 23)).cell? ⟨w.heap.size + 1, 1, none⟩ = some (.int .i64 b0) := by first | (simp; done) | go_simp
  have R2 : ((w.alloc (.cells #[.int .i64 x0, .int .i64 y0, .int .i64 x1, .int .i64 y1, .int .i64 rt, .int .i64 ys, .int .i64 cs, .int .i64 at4, .slice A1 z1.length c1, .slice A2 z2.length c2, .slice A3 z3.length c3, .slice A4 z4.length c4] 30)).alloc (.cells #[.int .i64 a0, .int .i64 b0, .int .i64 a1, .int .i64 b1] 23)).cell? ⟨w.heap.size + 1, 2, none⟩ = some (.int .i64 a1) := by first | (simp; done) | go_simp
  have R3 : ((w.alloc (.cells #[.int .i64 x0, .int .i64 y0, .int .i64 x1, .int .i64 y1, .int .i64 rt, .int .i64 ys, .int .i64 cs, .int .i64 at4, .slice A1 z1.length c1, .slice A2 z2.length c2, .slice A3 z3.length c3, .slice A4 z4.length c4] 30)).alloc (.cells #[.int .i64 a0, .int .i64 b0, .int .i64 a1, .int .i64 b1] 23)).cell? ⟨w.heap.size + 1, 3, none⟩ = some (.int .i64 b1) := by first | (simp; done) | go_simp
  have HR1 := Lib.hid (hr1.out.below hB)
  have HR2 := Lib.hid (hr2.out.below hB)
  have HR3 := Lib.hid (hr3.out.below hB)
  have HR4 := Lib.hid (hr4.out.below hB)
  go_enter Try.func4, Try.ntmps4
  go_wp2_with fail
  generalize (w.alloc (.cells #[.int .i64 x0, .int .i64 y0, .int .i64 x1, .int .i64 y1, .int .i64 rt, .int .i64 ys, .int .i64 cs, .int .i64 at4, .slice A1 z1.length c1, .slice A2 z2.length c2, .slice A3 z3.length c3, .slice A4 z4.length c4] 30)).alloc (.cells #[.int .i64 a0, .int .i64 b0, .int .i64 a1, .int .i64 b1] 23) = W0 at *
  generalize w.heap.size + 1 = br at *
  go_wp2_with fail
  refine (fairF_any x0 y0 x1 y1 rt ys cs at4 A1 A2 A3 A4 c1 c2 c3 c4 z1 z2 z3 z4 true (by simp [hF.out]) _).mono ?_
  rintro e w1 ⟨rfl, hb1⟩
  replace D0 := cell_kept D0 hb1
  replace D1 := cell_kept D1 hb1
  replace D2 := cell_kept D2 hb1
  replace D3 := cell_kept D3 hb1
  replace D4 := cell_kept D4 hb1
  replace D5 := cell_kept D5 hb1
  replace D6 := cell_kept D6 hb1
  replace D7 := cell_kept D7 hb1
  replace D8 := cell_kept D8 hb1
  replace D9 := cell_kept D9 hb1
  replace D10 := cell_kept D10 hb1
  replace D11 := cell_kept D11 hb1
  replace R0 := cell_kept R0 hb1
  replace R1 := cell_kept R1 hb1
  replace R2 := cell_kept R2 hb1
  replace R3 := cell_kept R3 hb1
  replace HR1 := Lib.hid (HR1.out.below hb1)
  replace HR2 := Lib.hid (HR2.out.below hb1)
  replace HR3 := Lib.hid (HR3.out.below hb1)
  replace HR4 := Lib.hid (HR4.out.below hb1)
  replace hB := hB.trans (hb1.mono hB.size)
  clear hb1
  go_wp2_with fail
  refine (box_any a0 b0 a1 b1 _).mono ?_
  rintro e w2 ⟨rfl, hb2⟩
  replace D0 := cell_kept D0 hb2
  replace D1 := cell_kept D1 hb2
  replace D2 := cell_kept D2 hb2
  replace D3 := cell_kept D3 hb2
  replace D4 := cell_kept D4 hb2
  replace D5 := cell_kept D5 hb2
  replace D6 := cell_kept D6 hb2
  replace D7 := cell_kept D7 hb2
  replace D8 := cell_kept D8 hb2
  replace D9 := cell_kept D9 hb2
  replace D10 := cell_kept D10 hb2
  replace D11 := cell_kept D11 hb2
  replace R0 := cell_kept R0 hb2
  replace R1 := cell_kept R1 hb2
  replace R2 := cell_kept R2 hb2
  replace R3 := cell_kept R3 hb2
  replace HR1 := Lib.hid (HR1.out.below hb2)
  replace HR2 := Lib.hid (HR2.out.below hb2)
  replace HR3 := Lib.hid (HR3.out.below hb2)
  replace HR4 := Lib.hid (HR4.out.below hb2)
  replace hB := hB.trans (hb2.mono hB.size)
  clear hb2
  go_wp2_with fail
  refine (near4_any a0 b0 a1 b1 true (by simp [hN.out]) _).mono ?_
  rintro e w3 ⟨rfl, hb3⟩
  replace D0 := cell_kept D0 hb3
  replace D1 := cell_kept D1 hb3
  replace D2 := cell_kept D2 hb3
  replace D3 := cell_kept D3 hb3
  replace D4 := cell_kept D4 hb3
  replace D5 := cell_kept D5 hb3
  replace D6 := cell_kept D6 hb3
  replace D7 := cell_kept D7 hb3
  replace D8 := cell_kept D8 hb3
  replace D9 := cell_kept D9 hb3
  replace D10 := cell_kept D10 hb3
  replace D11 := cell_kept D11 hb3
  replace R0 := cell_kept R0 hb3
  replace R1 := cell_kept R1 hb3
  replace R2 := cell_kept R2 hb3
  replace R3 := cell_kept R3 hb3
  replace HR1 := Lib.hid (HR1.out.below hb3)
  replace HR2 := Lib.hid (HR2.out.below hb3)
  replace HR3 := Lib.hid (HR3.out.below hb3)
  replace HR4 := Lib.hid (HR4.out.below hb3)
  replace hB := hB.trans (hb3.mono hB.size)
  clear hb3
  go_wp2_with fail
  refine (ratio_any rt true (by have := hQ.out; simp only [this]; simp) _).mono ?_
  rintro e w' ⟨rfl, rfl⟩
  go_wp2
  go_ret
  exact ⟨by simp, hB⟩

set_option maxRecDepth 100000 in
set_option maxHeartbeats 2000000 in
theorem sub_g4 (x0 y0 x1 y1 rt ys cs at4 : Int) (A1 A2 A3 A4 : Option Addr) (c1 c2 c3 c4 : Nat) (z1 z2 z3 z4 : List Int) (a0 b0 a1 b1 x y : Int) (w : World) (hr1 : Hid (Reads w A1 z1)) (hl1 : Small z1) (hn1 : Hid (A1 = none → c1 = 0)) (hr2 : Hid (Reads w A2 z2)) (hl2 : Small z2) (hn2 : Hid (A2 = none → c2 = 0)) (hr3 : Hid (Reads w A3 z3)) (hl3 : Small z3) (hn3 : Hid (A3 = none → c3 = 0)) (hr4 : Hid (Reads w A4 z4)) (hl4 : Small z4) (hn4 : Hid (A4 = none → c4 = 0)) (hF : Hid (FairF x0 y0 x1 y1 ys cs at4)) (hN : Hid (Near4 a0 b0 a1 b1)) (hQ : Hid (0 ≤ rt ∧ rt ≤ 5)) (m1 : 0 ≤ x0) (m2 : y0 < 0) :
    Calls Try.prog 4 #[.agg #[.int .i64 x0, .int .i64 y0, .int .i64 x1, .int .i64 y1, .int .i64 rt, .int .i64 ys, .int .i64 cs, .int .i64 at4, .slice A1 z1.length c1, .slice A2 z2.length c2, .slice A3 z3.length c3, .slice A4 z4.length c4], .agg #[.int .i64 a0, .int .i64 b0, .int .i64 a1, .int .i64 b1], .int .i64 x, .int .i64 y] w fun e w' => e = .returned (.bool true) ∧ Below w.heap.size w w' := by
  have hB : Below w.heap.size w ((w.alloc (.cells #[.int .i64 x0, .int .i64 y0, .int .i64 x1, .int .i64 y1, .int .i64 rt, .int .i64 ys, .int .i64 cs, .int .i64 at4, .slice A1 z1.length c1, .slice A2 z2.length c2, .slice A3 z3.length c3, .slice A4 z4.length c4] 30)).alloc (.cells #[.int .i64 a0, .int .i64 b0, .int .i64 a1, .int .i64 b1] 23)) := ((Below.refl _ _).alloc (Nat.le_refl _) _).alloc (by simp) _
  have D0 : ((w.alloc (.cells #[.int .i64 x0, .int .i64 y0, .int .i64 x1, .int .i64 y1, .int .i64 rt, .int .i64 ys, .int .i64 cs, .int .i64 at4, .slice A1 z1.length c1, .slice A2 z2.length c2, .slice A3 z3.length c3, .slice A4 z4.length c4] 30)).alloc (.cells #[.int .i64 a0, .int .i64 b0, .int .i64 a1, .int .i64 b1] 23)).cell? ⟨w.heap.size, 0, none⟩ = some (.int .i64 x0) := by first | (simp; done) | go_simp
  have D1 : ((w.alloc (.cells #[.int .i64 x0, .int .i64 y0, .int .i64 x1, .int .i64 y1, .int .i64 rt, .int .i64 ys, .int .i64 cs, .int .i64 at4, .slice A1 z1.length c1, .slice A2 z2.length c2, .slice A3 z3.length c3, .slice A4 z4.length c4] 30)).alloc (.cells #[.int .i64 a0, .int .i64 b0, .int .i64 a1, .int .i64 b1] 23)).cell? ⟨w.heap.size, 1, none⟩ = some (.int .i64 y0) := by first | (simp; done) | go_simp
  have D2 : ((w.alloc (.cells #[.int .i64 x0, .int .i64 y0, .int .i64 x1, .int .i64 y1, .int .i64 rt, .int .i64 ys, .int .i64 cs, .int .i64 at4, .slice A1 z1.length c1, .slice A2 z2.length c2, .slice A3 z3.length c3, .slice A4 z4.length c4] 30)).alloc (.cells #[.int .i64 a0, .int .i64 b0, .int .i64 a1, .int .i64 b1] 23)).cell? ⟨w.heap.size, 2, none⟩ = some (.int .i64 x1) := by first | (simp; done) | go_simp
  have D3 : ((w.alloc (.cells #[.int .i64 x0, .int .i64 y0, .int .i64 x1, .int .i64 y1, .int .i64 rt, .int .i64 ys, .int .i64 cs, .int .i64 at4, .slice A1 z1.length c1, .slice A2 z2.length c2, .slice A3 z3.length c3, .slice A4 z4.length c4] 30)).alloc (.cells #[.int .i64 a0, .int .i64 b0, .int .i64 a1, .int .i64 b1] 23)).cell? ⟨w.heap.size, 3, none⟩ = some (.int .i64 y1) := by first | (simp; done) | go_simp
  have D4 : ((w.alloc (.cells #[.int .i64 x0, .int .i64 y0, .int .i64 x1, .int .i64 y1, .int .i64 rt, .int .i64 ys, .int .i64 cs, .int .i64 at4, .slice A1 z1.length c1, .slice A2 z2.length c2, .slice A3 z3.length c3, .slice A4 z4.length c4] 30)).alloc (.cells #[.int .i64 a0, .int .i64 b0, .int .i64 a1, .int .i64 b1] 23)).cell? ⟨w.heap.size, 4, none⟩ = some (.int .i64 rt) := by first | (simp; done) | go_simp
  have D5 : ((w.alloc (.cells #[.int .i64 x0, .int .i64 y0, .int .i64 x1, .int .i64 y1, .int .i64 rt, .int .i64 ys, .int .i64 cs, .int .i64 at4, .slice A1 z1.length c1, .slice A2 z2.length c2, .slice A3 z3.length c3, .slice A4 z4.length c4] 30)).alloc (.cells #[.int .i64 a0, .int .i64 b0, .int .i64 a1, .int .i64 b1] 23)).cell? ⟨w.heap.size, 5, none⟩ = some (.int .i64 ys) := by first | (simp; done) | go_simp
  have D6 : ((w.alloc (.cells #[.int .i64 x0, .int .i64 y0, .int .i64 x1, .int .i64 y1, .int .i64 rt, .int .i64 ys, .int .i64 cs, .int .i64 at4, .slice A1 z1.length c1, .slice A2 z2.length c2, .slice A3 z3.length c3, .slice A4 z4.length c4] 30)).alloc (.cells #[.int .i64 a0, .int .i64 b0, .int .i64 a1, .int .i64 b1] 23)).cell? ⟨w.heap.size, 6, none⟩ = some (.int .i64 cs) := by first | (simp; done) | go_simp
  have D7 : ((w.alloc (.cells #[.int .i64 x0, .int .i64 y0, .int .i64 x1, .int .i64 y1, .int .i64 rt, .int .i64 ys, .int .i64 cs, .int .i64 at4, .slice A1 z1.length c1, .slice A2 z2.length c2, .slice A3 z3.length c3, .slice A4 z4.length c4] 30)).alloc (.cells #[.int .i64 a0, .int .i64 b0, .int .i64 a1, .int .i64 b1] 23)).cell? ⟨w.heap.size, 7, none⟩ = some (.int .i64 at4) := by first | (simp; done) | go_simp
  have D8 : ((w.alloc (.cells #[.int .i64 x0, .int .i64 y0, .int .i64 x1, .int .i64 y1, .int .i64 rt, .int .i64 ys, .int .i64 cs, .int .i64 at4, .slice A1 z1.length c1, .slice A2 z2.length c2, .slice A3 z3.length c3, .slice A4 z4.length c4] 30)).alloc (.cells #[.int .i64 a0, .int .i64 b0, .int .i64 a1, .int .i64 b1] 23)).cell? ⟨w.heap.size, 8, none⟩ = some (.slice A1 z1.length c1) := by first | (simp; done) | go_simp
  have D9 : ((w.alloc (.cells #[.int .i64 x0, .int .i64 y0, .int .i64 x1, .int .i64 y1, .int .i64 rt, .int .i64 ys, .int .i64 cs, .int .i64 at4, .slice A1 z1.length c1, .slice A2 z2.length c2, .slice A3 z3.length c3, .slice A4 z4.length c4] 30)).alloc (.cells #[.int .i64 a0, .int .i64 b0, .int .i64 a1, .int .i64 b1] 23)).cell? ⟨w.heap.size, 9, none⟩ = some (.slice A2 z2.length c2) := by first | (simp; done) | go_simp
  have D10 : ((w.alloc (.cells #[.int .i64 x0, .int .i64 y0, .int .i64 x1, .int .i64 y1, .int .i64 rt, .int .i64 ys, .int .i64 cs, .int .i64 at4, .slice A1 z1.length c1, .slice A2 z2.length c2, .slice A3 z3.length c3, .slice A4 z4.length c4] 30)).alloc (.cells #[.int .i64 a0, .int .i64 b0, .int .i64 a1, .int .i64 b1] 23)).cell? ⟨w.heap.size, 10, none⟩ = some (.slice A3 z3.length c3) := by first | (simp; done) | go_simp
  have D11 : ((w.alloc (.cells #[.int .i64 x0, .int .i64 y0, .int .i64 x1, .int .i64 y1, .int .i64 rt, .int .i64 ys, .int .i64 cs, .int .i64 at4, .slice A1 z1.length c1, .slice A2 z2.length c2, .slice A3 z3.length c3, .slice A4 z4.length c4] 30)).alloc (.cells #[.int .i64 a0, .int .i64 b0, .int .i64 a1, .int .i64 b1] 23)).cell? ⟨w.heap.size, 11, none⟩ = some (.slice A4 z4.length c4) := by first | (simp; done) | go_simp
  have R0 : ((w.alloc (.cells #[.int .i64 x0, .int .i64 y0, .int .i64 x1, .int .i64 y1, .int .i64 rt, .int .i64 ys, .int .i64 cs, .int .i64 at4, .slice A1 z1.length c1, .slice A2 z2.length c2, .slice A3 z3.length c3, .slice A4 z4.length c4] 30)).alloc (.cells #[.int .i64 a0, .int .i64 b0, .int .i64 a1, .int .i64 b1] 23)).cell? ⟨w.heap.size + 1, 0, none⟩ = some (.int .i64 a0) := by first | (simp; done) | go_simp
  have R1 : ((w.alloc (.cells #[.int .i64 x0, .int .i64 y0, .int .i64 x1, .int .i64 y1, .int .i64 rt, .int .i64 ys, .int .i64 cs, .int .i64 at4, .slice A1 z1.length c1, .slice A2 z2.length c2, .slice A3 z3.length c3, .slice A4 z4.length c4] 30)).alloc (.cells #[.int .i64 a0, .int .i64 b0, .int .i64 a1, .int .i64 b1] 23)).cell? ⟨w.heap.size + 1, 1, none⟩ = some (.int .i64 b0) := by first | (simp; done) | go_simp
  have R2 : ((w.alloc (.cells #[.int .i64 x0, .int .i64 y0, .int .i64 x1, .int .i64 y1, .int .i64 rt, .int .i64 ys, .int .i64 cs, .int .i64 at4, .slice A1 z1.length c1, .slice A2 z2.length c2, .slice A3 z3.length c3, .slice A4 z4.length c4] 30)).alloc (.cells #[.int .i64 a0, .int .i64 b0, .int .i64 a1, .int .i64 b1] 23)).cell? ⟨w.heap.size + 1, 2, none⟩ = some (.int .i64 a1) := by first | (simp; done) | go_simp
  have R3 : ((w.alloc (.cells #[.int .i64 x0, .int .i64 y0, .int .i64 x1, .int .i64 y1, .int .i64 rt, .int .i64 ys, .int .i64 cs, .int .i64 at4, .slice A1 z1.length c1, .slice A2 z2.length c2, .slice A3 z3.length c3, .slice A4 z4.length c4] 30)).alloc (.cells #[.int .i64 a0, .int .i64 b0, .int .i64 a1, .int .i64 b1] 23)).cell? ⟨w.heap.size + 1, 3, none⟩ = some (.int .i64 b1) := by first | (simp; done) | go_simp
  have HR1 := Lib.hid (hr1.out.below hB)
  have HR2 := Lib.hid (hr2.out.below hB)
  have HR3 := Lib.hid (hr3.out.below hB)
  have HR4 := Lib.hid (hr4.out.below hB)
  go_enter Try.func4, Try.ntmps4
  go_wp2_with fail
  generalize (w.alloc (.cells #[.int .i64 x0, .int .i64 y0, .int .i64 x1, .int .i64 y1, .int .i64 rt, .int .i64 ys, .int .i64 cs, .int .i64 at4, .slice A1 z1.length c1, .slice A2 z2.length c2, .slice A3 z3.length c3, .slice A4 z4.length c4] 30)).alloc (.cells #[.int .i64 a0, .int .i64 b0, .int .i64 a1, .int .i64 b1] 23) = W0 at *
  generalize w.heap.size + 1 = br at *
  go_wp2_with fail
  refine (fairF_any x0 y0 x1 y1 rt ys cs at4 A1 A2 A3 A4 c1 c2 c3 c4 z1 z2 z3 z4 true (by simp [hF.out]) _).mono ?_
  rintro e w1 ⟨rfl, hb1⟩
  replace D0 := cell_kept D0 hb1
  replace D1 := cell_kept D1 hb1
  replace D2 := cell_kept D2 hb1
  replace D3 := cell_kept D3 hb1
  replace D4 := cell_kept D4 hb1
  replace D5 := cell_kept D5 hb1
  replace D6 := cell_kept D6 hb1
  replace D7 := cell_kept D7 hb1
  replace D8 := cell_kept D8 hb1
  replace D9 := cell_kept D9 hb1
  replace D10 := cell_kept D10 hb1
  replace D11 := cell_kept D11 hb1
  replace R0 := cell_kept R0 hb1
  replace R1 := cell_kept R1 hb1
  replace R2 := cell_kept R2 hb1
  replace R3 := cell_kept R3 hb1
  replace HR1 := Lib.hid (HR1.out.below hb1)
  replace HR2 := Lib.hid (HR2.out.below hb1)
  replace HR3 := Lib.hid (HR3.out.below hb1)
  replace HR4 := Lib.hid (HR4.out.below hb1)
  replace hB := hB.trans (hb1.mono hB.size)
  clear hb1
  go_wp2_with fail
  refine (box_any a0 b0 a1 b1 _).mono ?_
  rintro e w2 ⟨rfl, hb2⟩
  replace D0 := cell_kept D0 hb2
  replace D1 := cell_kept D1 hb2
  replace D2 := cell_kept D2 hb2
  replace D3 := cell_kept D3 hb2
  replace D4 := cell_kept D4 hb2
  replace D5 := cell_kept D5 hb2
  replace D6 := cell_kept D6 hb2
  replace D7 := cell_kept D7 hb2
  replace D8 := cell_kept D8 hb2
  replace D9 := cell_kept D9 hb2
  replace D10 := cell_kept D10 hb2
  replace D11 := cell_kept D11 hb2
  replace R0 := cell_kept R0 hb2
  replace R1 := cell_kept R1 hb2
  replace R2 := cell_kept R2 hb2
  replace R3 := cell_kept R3 hb2
  replace HR1 := Lib.hid (HR1.out.below hb2)
  replace HR2 := Lib.hid (HR2.out.below hb2)
  replace HR3 := Lib.hid (HR3.out.below hb2)
  replace HR4 := Lib.hid (HR4.out.below hb2)
  replace hB := hB.trans (hb2.mono hB.size)
  clear hb2
  go_wp2_with fail
  refine (near4_any a0 b0 a1 b1 true (by simp [hN.out]) _).mono ?_
  rintro e w3 ⟨rfl, hb3⟩
  replace D0 := cell_kept D0 hb3
  replace D1 := cell_kept D1 hb3
  replace D2 := cell_kept D2 hb3
  replace D3 := cell_kept D3 hb3
  replace D4 := cell_kept D4 hb3
  replace D5 := cell_kept D5 hb3
  replace D6 := cell_kept D6 hb3
  replace D7 := cell_kept D7 hb3
  replace D8 := cell_kept D8 hb3
  replace D9 := cell_kept D9 hb3
  replace D10 := cell_kept D10 hb3
  replace D11 := cell_kept D11 hb3
  replace R0 := cell_kept R0 hb3
  replace R1 := cell_kept R1 hb3
  replace R2 := cell_kept R2 hb3
  replace R3 := cell_kept R3 hb3
  replace HR1 := Lib.hid (HR1.out.below hb3)
  replace HR2 := Lib.hid (HR2.out.below hb3)
  replace HR3 := Lib.hid (HR3.out.below hb3)
  replace HR4 := Lib.hid (HR4.out.below hb3)
  replace hB := hB.trans (hb3.mono hB.size)
  clear hb3
  go_wp2_with fail
  refine (ratio_any rt true (by have := hQ.out; simp only [this]; simp) _).mono ?_
  rintro e w' ⟨rfl, rfl⟩
  go_wp2
  go_ret
  exact ⟨by simp, hB⟩

set_option maxRecDepth 100000 in
set_option maxHeartbeats 4000000 in
theorem sub_notall (x0 y0 x1 y1 rt ys cs at4 : Int) (A1 A2 A3 A4 : Option Addr) (c1 c2 c3 c4 : Nat) (z1 z2 z3 z4 : List Int) (a0 b0 a1 b1 x y : Int) (w : World) (hr1 : Hid (Reads w A1 z1)) (hl1 : Small z1) (hn1 : Hid (A1 = none → c1 = 0)) (hr2 : Hid (Reads w A2 z2)) (hl2 : Small z2) (hn2 : Hid (A2 = none → c2 = 0)) (hr3 : Hid (Reads w A3 z3)) (hl3 : Small z3) (hn3 : Hid (A3 = none → c3 = 0)) (hr4 : Hid (Reads w A4 z4)) (hl4 : Small z4) (hn4 : Hid (A4 = none → c4 = 0)) (hF : Hid (FairF x0 y0 x1 y1 ys cs at4)) (hN : Hid (Near4 a0 b0 a1 b1)) (hQ : Hid (0 ≤ rt ∧ rt ≤ 5)) (m1' : 0 ≤ x0) (m2' : 0 ≤ y0) (hX : Hid (¬ AllT x0 y0 x1 y1 rt ys cs at4 z1.length z2.length z3.length z4.length)) :
    Calls Try.prog 4 #[.agg #[.int .i64 x0, .int .i64 y0, .int .i64 x1, .int .i64 y1, .int .i64 rt, .int .i64 ys, .int .i64 cs, .int .i64 at4, .slice A1 z1.length c1, .slice A2 z2.length c2, .slice A3 z3.length c3, .slice A4 z4.length c4], .agg #[.int .i64 a0, .int .i64 b0, .int .i64 a1, .int .i64 b1], .int .i64 x, .int .i64 y] w fun e w' => e = .returned (.bool true) ∧ Below w.heap.size w w' := by
  have hB : Below w.heap.size w ((w.alloc (.cells #[.int .i64 x0, .int .i64 y0, .int .i64 x1, .int .i64 y1, .int .i64 rt, .int .i64 ys, .int .i64 cs, .int .i64 at4, .slice A1 z1.length c1, .slice A2 z2.length c2, .slice A3 z3.length c3, .slice A4 z4.length c4] 30)).alloc (.cells #[.int .i64 a0, .int .i64 b0, .int .i64 a1, .int .i64 b1] 23)) := ((Below.refl _ _).alloc (Nat.le_refl _) _).alloc (by simp) _
  have D0 : ((w.alloc (.cells #[.int .i64 x0, .int .i64 y0, .int .i64 x1, .int .i64 y1, .int .i64 rt, .int .i64 ys, .int .i64 cs, .int .i64 at4, .slice A1 z1.length c1, .slice A2 z2.length c2, .slice A3 z3.length c3, .slice A4 z4.length c4] 30)).alloc (.cells #[.int .i64 a0, .int .i64 b0, .int .i64 a1, .int .i64 b1] 23)).cell? ⟨w.heap.size, 0, none⟩ = some (.int .i64 x0) := by first | (simp; done) | go_simp
  have D1 : ((w.alloc (.cells #[.int .i64 x0, .int .i64 y0, .int .i64 x1, .int .i64 y1, .int .i64 rt, .int .i64 ys, .int .i64 cs, .int .i64 at4, .slice A1 z1.length c1, .slice A2 z2.length c2, .slice A3 z3.length c3, .slice A4 z4.length c4] 30)).alloc (.cells #[.int .i64 a0, .int .i64 b0, .int .i64 a1, .int .i64 b1] 23)).cell? ⟨w.heap.size, 1, none⟩ = some (.int .i64 y0) := by first | (simp; done) | go_simp
  have D2 : ((w.alloc (.cells #[.int .i64 x0, .int .i64 y0, .int .i64 x1, .int .i64 y1, .int .i64 rt, .int .i64 ys, .int .i64 cs, .int .i64 at4, .slice A1 z1.length c1, .slice A2 z2.length c2, .slice A3 z3.length c3, .slice A4 z4.length c4] 30)).alloc (.cells #[.int .i64 a0, .int .i64 b0, .int .i64 a1, .int .i64 b1] 23)).cell? ⟨w.heap.size, 2, none⟩ = some (.int .i64 x1) := by first | (simp; done) | go_simp
  have D3 : ((w.alloc (.cells #[.int .i64 x0, .int .i64 y0, .int .i64 x1, .int .i64 y1, .int .i64 rt, .int .i64 ys, .int .i64 cs, .int .i64 at4, .slice A1 z1.length c1, .slice A2 z2.length c2, .slice A3 z3.length c3, .slice A4 z4.length c4] 30)).alloc (.cells #[.int .i64 a0, .int .i64 b0, .int .i64 a1, .int .i64 b1] 23)).cell? ⟨w.heap.size, 3, none⟩ = some (.int .i64 y1) := by first | (simp; done) | go_simp
  have D4 : ((w.alloc (.cells #[.int .i64 x0, .int .i64 y0, .int .i64 x1, .int .i64 y1, .int .i64 rt, .int .i64 ys, .int .i64 cs, .int .i64 at4, .slice A1 z1.length c1, .slice A2 z2.length c2, .slice A3 z3.length c3, .slice A4 z4.length c4] 30)).alloc (.cells #[.int .i64 a0, .int .i64 b0, .int .i64 a1, .int .i64 b1] 23)).cell? ⟨w.heap.size, 4, none⟩ = some (.int .i64 rt) := by first | (simp; done) | go_simp
  have D5 : ((w.alloc (.cells #[.int .i64 x0, .int .i64 y0, .int .i64 x1, .int .i64 y1, .int .i64 rt, .int .i64 ys, .int .i64 cs, .int .i64 at4, .slice A1 z1.length c1, .slice A2 z2.length c2, .slice A3 z3.length c3, .slice A4 z4.length c4] 30)).alloc (.cells #[.int .i64 a0, .int .i64 b0, .int .i64 a1, .int .i64 b1] 23)).cell? ⟨w.heap.size, 5, none⟩ = some (.int .i64 ys) := by first | (simp; done) | go_simp
  have D6 : ((w.alloc (.cells #[.int .i64 x0, .int .i64 y0, .int .i64 x1, .int .i64 y1, .int .i64 rt, .int .i64 ys, .int .i64 cs, .int .i64 at4, .slice A1 z1.length c1, .slice A2 z2.length c2, .slice A3 z3.length c3, .slice A4 z4.length c4] 30)).alloc (.cells #[.int .i64 a0, .int .i64 b0, .int .i64 a1, .int .i64 b1] 23)).cell? ⟨w.heap.size, 6, none⟩ = some (.int .i64 cs) := by first | (simp; done) | go_simp
  have D7 : ((w.alloc (.cells #[.int .i64 x0, .int .i64 y0, .int .i64 x1, .int .i64 y1, .int .i64 rt, .int .i64 ys, .int .i64 cs, .int .i64 at4, .slice A1 z1.length c1, .slice A2 z2.length c2, .slice A3 z3.length c3, .slice A4 z4.length c4] 30)).alloc (.cells #[.int .i64 a0, .int .i64 b0, .int .i64 a1, .int .i64 b1] 23)).cell? ⟨w.heap.size, 7, none⟩ = some (.int .i64 at4) := by first | (simp; done) | go_simp
  have D8 : ((w.alloc (.cells #[.int .i64 x0, .int .i64 y0, .int .i64 x1, .int .i64 y1, .int .i64 rt, .int .i64 ys, .int .i64 cs, .int .i64 at4, .slice A1 z1.length c1, .slice A2 z2.length c2, .slice A3 z3.length c3, .slice A4 z4.length c4] 30)).alloc (.cells #[.int .i64 a0, .int .i64 b0, .int .i64 a1, .int .i64 b1] 23)).cell? ⟨w.heap.size, 8, none⟩ = some (.slice A1 z1.length c1) := by first | (simp; done) | go_simp
  have D9 : ((w.alloc (.cells #[.int .i64 x0, .int .i64 y0, .int .i64 x1, .int .i64 y1, .int .i64 rt, .int .i64 ys, .int .i64 cs, .int .i64 at4, .slice A1 z1.length c1, .slice A2 z2.length c2, .slice A3 z3.length c3, .slice A4 z4.length c4] 30)).alloc (.cells #[.int .i64 a0, .int .i64 b0, .int .i64 a1, .int .i64 b1] 23)).cell? ⟨w.heap.size, 9, none⟩ = some (.slice A2 z2.length c2) := by first | (simp; done) | go_simp
  have D10 : ((w.alloc (.cells #[.int .i64 x0, .int .i64 y0, .int .i64 x1, .int .i64 y1, .int .i64 rt, .int .i64 ys, .int .i64 cs, .int .i64 at4, .slice A1 z1.length c1, .slice A2 z2.length c2, .slice A3 z3.length c3, .slice A4 z4.length c4] 30)).alloc (.cells #[.int .i64 a0, .int .i64 b0, .int .i64 a1, .int .i64 b1] 23)).cell? ⟨w.heap.size, 10, none⟩ = some (.slice A3 z3.length c3) := by first | (simp; done) | go_simp
  have D11 : ((w.alloc (.cells #[.int .i64 x0, .int .i64 y0, .int .i64 x1, .int .i64 y1, .int .i64 rt, .int .i64 ys, .int .i64 cs, .int .i64 at4, .slice A1 z1.length c1, .slice A2 z2.length c2, .slice A3 z3.length c3, .slice A4 z4.length c4] 30)).alloc (.cells #[.int .i64 a0, .int .i64 b0, .int .i64 a1, .int .i64 b1] 23)).cell? ⟨w.heap.size, 11, none⟩ = some (.slice A4 z4.length c4) := by first | (simp; done) | go_simp
  have R0 : ((w.alloc (.cells #[.int .i64 x0, .int .i64 y0, .int .i64 x1, .int .i64 y1, .int .i64 rt, .int .i64 ys, .int .i64 cs, .int .i64 at4, .slice A1 z1.length c1, .slice A2 z2.length c2, .slice A3 z3.length c3, .slice A4 z4.length c4] 30)).alloc (.cells #[.int .i64 a0, .int .i64 b0, .int .i64 a1, .int .i64 b1] 23)).cell? ⟨w.heap.size + 1, 0, none⟩ = some (.int .i64 a0) := by first | (simp; done) | go_simp
  have R1 : ((w.alloc (.cells #[.int .i64 x0, .int .i64 y0, .int .i64 x1, .int .i64 y1, .int .i64 rt, .int .i64 ys, .int .i64 cs, .int .i64 at4, .slice A1 z1.length c1, .slice A2 z2.length c2, .slice A3 z3.length c3, .slice A4 z4.length c4] 30)).alloc (.cells #[.int .i64 a0, .int .i64 b0, .int .i64 a1, .int .i64 b1] 23)).cell? ⟨w.heap.size + 1, 1, none⟩ = some (.int .i64 b0) := by first | (simp; done) | go_simp
  have R2 : ((w.alloc (.cells #[.int .i64 x0, .int .i64 y0, .int .i64 x1, .int .i64 y1, .int .i64 rt, .int .i64 ys, .int .i64 cs, .int .i64 at4, .slice A1 z1.length c1, .slice A2 z2.length c2, .slice A3 z3.length c3, .slice A4 z4.length c4] 30)).alloc (.cells #[.int .i64 a0, .int .i64 b0, .int .i64 a1, .int .i64 b1] 23)).cell? ⟨w.heap.size + 1, 2, none⟩ = some (.int .i64 a1) := by first | (simp; done) | go_simp
  have R3 : ((w.alloc (.cells #[.int .i64 x0, .int .i64 y0, .int .i64 x1, .int .i64 y1, .int .i64 rt, .int .i64 ys, .int .i64 cs, .int .i64 at4, .slice A1 z1.length c1, .slice A2 z2.length c2, .slice A3 z3.length c3, .slice A4 z4.length c4] 30)).alloc (.cells #[.int .i64 a0, .int .i64 b0, .int .i64 a1, .int .i64 b1] 23)).cell? ⟨w.heap.size + 1, 3, none⟩ = some (.int .i64 b1) := by first | (simp; done) | go_simp
  have HR1 := Lib.hid (hr1.out.below hB)
  have HR2 := Lib.hid (hr2.out.below hB)
  have HR3 := Lib.hid (hr3.out.below hB)
  have HR4 := Lib.hid (hr4.out.below hB)
  go_enter Try.func4, Try.ntmps4
  go_wp2_with fail
  generalize (w.alloc (.cells #[.int .i64 x0, .int .i64 y0, .int .i64 x1, .int .i64 y1, .int .i64 rt, .int .i64 ys, .int .i64 cs, .int .i64 at4, .slice A1 z1.length c1, .slice A2 z2.length c2, .slice A3 z3.length c3, .slice A4 z4.length c4] 30)).alloc (.cells #[.int .i64 a0, .int .i64 b0, .int .i64 a1, .int .i64 b1] 23) = W0 at *
  generalize w.heap.size + 1 = br at *
  go_wp2_with fail
  refine (fairF_any x0 y0 x1 y1 rt ys cs at4 A1 A2 A3 A4 c1 c2 c3 c4 z1 z2 z3 z4 true (by simp [hF.out]) _).mono ?_
  rintro e w1 ⟨rfl, hb1⟩
  replace D0 := cell_kept D0 hb1
  replace D1 := cell_kept D1 hb1
  replace D2 := cell_kept D2 hb1
  replace D3 := cell_kept D3 hb1
  replace D4 := cell_kept D4 hb1
  replace D5 := cell_kept D5 hb1
  replace D6 := cell_kept D6 hb1
  replace D7 := cell_kept D7 hb1
  replace D8 := cell_kept D8 hb1
  replace D9 := cell_kept D9 hb1
  replace D10 := cell_kept D10 hb1
  replace D11 := cell_kept D11 hb1
  replace R0 := cell_kept R0 hb1
  replace R1 := cell_kept R1 hb1
  replace R2 := cell_kept R2 hb1
  replace R3 := cell_kept R3 hb1
  replace HR1 := Lib.hid (HR1.out.below hb1)
  replace HR2 := Lib.hid (HR2.out.below hb1)
  replace HR3 := Lib.hid (HR3.out.below hb1)
  replace HR4 := Lib.hid (HR4.out.below hb1)
  replace hB := hB.trans (hb1.mono hB.size)
  clear hb1
  go_wp2_with fail
  refine (box_any a0 b0 a1 b1 _).mono ?_
  rintro e w2 ⟨rfl, hb2⟩
  replace D0 := cell_kept D0 hb2
  replace D1 := cell_kept D1 hb2
  replace D2 := cell_kept D2 hb2
  replace D3 := cell_kept D3 hb2
  replace D4 := cell_kept D4 hb2
  replace D5 := cell_kept D5 hb2
  replace D6 := cell_kept D6 hb2
  replace D7 := cell_kept D7 hb2
  replace D8 := cell_kept D8 hb2
  replace D9 := cell_kept D9 hb2
  replace D10 := cell_kept D10 hb2
  replace D11 := cell_kept D11 hb2
  replace R0 := cell_kept R0 hb2
  replace R1 := cell_kept R1 hb2
  replace R2 := cell_kept R2 hb2
  replace R3 := cell_kept R3 hb2
  replace HR1 := Lib.hid (HR1.out.below hb2)
  replace HR2 := Lib.hid (HR2.out.below hb2)
  replace HR3 := Lib.hid (HR3.out.below hb2)
  replace HR4 := Lib.hid (HR4.out.below hb2)
  replace hB := hB.trans (hb2.mono hB.size)
  clear hb2
  go_wp2_with fail
  refine (near4_any a0 b0 a1 b1 true (by simp [hN.out]) _).mono ?_
  rintro e w3 ⟨rfl, hb3⟩
  replace D0 := cell_kept D0 hb3
  replace D1 := cell_kept D1 hb3
  replace D2 := cell_kept D2 hb3
  replace D3 := cell_kept D3 hb3
  replace D4 := cell_kept D4 hb3
  replace D5 := cell_kept D5 hb3
  replace D6 := cell_kept D6 hb3
  replace D7 := cell_kept D7 hb3
  replace D8 := cell_kept D8 hb3
  replace D9 := cell_kept D9 hb3
  replace D10 := cell_kept D10 hb3
  replace D11 := cell_kept D11 hb3
  replace R0 := cell_kept R0 hb3
  replace R1 := cell_kept R1 hb3
  replace R2 := cell_kept R2 hb3
  replace R3 := cell_kept R3 hb3
  replace HR1 := Lib.hid (HR1.out.below hb3)
  replace HR2 := Lib.hid (HR2.out.below hb3)
  replace HR3 := Lib.hid (HR3.out.below hb3)
  replace HR4 := Lib.hid (HR4.out.below hb3)
  replace hB := hB.trans (hb3.mono hB.size)
  clear hb3
  go_wp2_with fail
  refine (ratio_any rt true (by have := hQ.out; simp only [this]; simp) _).mono ?_
  rintro e w' ⟨rfl, rfl⟩
  have HS : Hid (Below w.heap.size w w3 ∧ w3.cell? ⟨w.heap.size, 0, none⟩ = some (.int .i64 x0) ∧ w3.cell? ⟨w.heap.size, 1, none⟩ = some (.int .i64 y0) ∧ w3.cell? ⟨w.heap.size, 2, none⟩ = some (.int .i64 x1) ∧ w3.cell? ⟨w.heap.size, 3, none⟩ = some (.int .i64 y1) ∧ w3.cell? ⟨w.heap.size, 4, none⟩ = some (.int .i64 rt) ∧ w3.cell? ⟨w.heap.size, 5, none⟩ = some (.int .i64 ys) ∧ w3.cell? ⟨w.heap.size, 6, none⟩ = some (.int .i64 cs) ∧ w3.cell? ⟨w.heap.size, 7, none⟩ = some (.int .i64 at4) ∧ w3.cell? ⟨w.heap.size, 8, none⟩ = some (.slice A1 z1.length c1) ∧ w3.cell? ⟨w.heap.size, 9, none⟩ = some (.slice A2 z2.length c2) ∧ w3.cell? ⟨w.heap.size, 10, none⟩ = some (.slice A3 z3.length c3) ∧ w3.cell? ⟨w.heap.size, 11, none⟩ = some (.slice A4 z4.length c4) ∧ w3.cell? ⟨br, 0, none⟩ = some (.int .i64 a0) ∧ w3.cell? ⟨br, 1, none⟩ = some (.int .i64 b0) ∧ w3.cell? ⟨br, 2, none⟩ = some (.int .i64 a1) ∧ w3.cell? ⟨br, 3, none⟩ = some (.int .i64 b1)) := ⟨hB, D0, D1, D2, D3, D4, D5, D6, D7, D8, D9, D10, D11, R0, R1, R2, R3⟩
  obtain ⟨⟨⟨⟨f1, f2⟩, ⟨f3, f4⟩, ⟨f5, f6⟩, ⟨f7, f8⟩⟩, f9, f10, _⟩, _⟩ := id hF.out
  clear HR1 HR2 HR3 HR4
  go_wp2
  go_loopw [9] (fun yv wr => ∃ e : Int, yv = .int .i64 e ∧ y0 ≤ e ∧ e ≤ y1 ∧ Hid (Below w.heap.size w wr ∧ wr.cell? ⟨w.heap.size, 0, none⟩ = some (.int .i64 x0) ∧ wr.cell? ⟨w.heap.size, 1, none⟩ = some (.int .i64 y0) ∧ wr.cell? ⟨w.heap.size, 2, none⟩ = some (.int .i64 x1) ∧ wr.cell? ⟨w.heap.size, 3, none⟩ = some (.int .i64 y1) ∧ wr.cell? ⟨w.heap.size, 4, none⟩ = some (.int .i64 rt) ∧ wr.cell? ⟨w.heap.size, 5, none⟩ = some (.int .i64 ys) ∧ wr.cell? ⟨w.heap.size, 6, none⟩ = some (.int .i64 cs) ∧ wr.cell? ⟨w.heap.size, 7, none⟩ = some (.int .i64 at4) ∧ wr.cell? ⟨w.heap.size, 8, none⟩ = some (.slice A1 z1.length c1) ∧ wr.cell? ⟨w.heap.size, 9, none⟩ = some (.slice A2 z2.length c2) ∧ wr.cell? ⟨w.heap.size, 10, none⟩ = some (.slice A3 z3.length c3) ∧ wr.cell? ⟨w.heap.size, 11, none⟩ = some (.slice A4 z4.length c4) ∧ wr.cell? ⟨br, 0, none⟩ = some (.int .i64 a0) ∧ wr.cell? ⟨br, 1, none⟩ = some (.int .i64 b0) ∧ wr.cell? ⟨br, 2, none⟩ = some (.int .i64 a1) ∧ wr.cell? ⟨br, 3, none⟩ = some (.int .i64 b1)) ∧ Hid (∀ x y, Insd x0 y0 x1 e x y → Ther x0 y0 rt ys cs at4 z1.length z2.length z3.length z4.length x y)) (fun yv _ => (y1 - intOf yv).toNat)
  case atStart => exact ⟨y0, rfl, Int.le_refl _, by omega, HS, show Hid _ from fun x y h => (by obtain ⟨_, _, _, _⟩ := h; omega)⟩
  case round =>
    obtain ⟨e, rfl, e1, e2, KR, HD⟩ := hrel
    clear HS D0 D1 D2 D3 D4 D5 D6 D7 D8 D9 D10 D11 R0 R1 R2 R3 hB
    obtain ⟨hB, D0, D1, D2, D3, D4, D5, D6, D7, D8, D9, D10, D11, R0, R1, R2, R3⟩ := id KR.out
    by_cases hlt : e < y1
    · go_wp2
      go_loopw [10] (fun xv wr => ∃ u : Int, xv = .int .i64 u ∧ x0 ≤ u ∧ u ≤ x1 ∧ Hid (Below w.heap.size w wr ∧ wr.cell? ⟨w.heap.size, 0, none⟩ = some (.int .i64 x0) ∧ wr.cell? ⟨w.heap.size, 1, none⟩ = some (.int .i64 y0) ∧ wr.cell? ⟨w.heap.size, 2, none⟩ = some (.int .i64 x1) ∧ wr.cell? ⟨w.heap.size, 3, none⟩ = some (.int .i64 y1) ∧ wr.cell? ⟨w.heap.size, 4, none⟩ = some (.int .i64 rt) ∧ wr.cell? ⟨w.heap.size, 5, none⟩ = some (.int .i64 ys) ∧ wr.cell? ⟨w.heap.size, 6, none⟩ = some (.int .i64 cs) ∧ wr.cell? ⟨w.heap.size, 7, none⟩ = some (.int .i64 at4) ∧ wr.cell? ⟨w.heap.size, 8, none⟩ = some (.slice A1 z1.length c1) ∧ wr.cell? ⟨w.heap.size, 9, none⟩ = some (.slice A2 z2.length c2) ∧ wr.cell? ⟨w.heap.size, 10, none⟩ = some (.slice A3 z3.length c3) ∧ wr.cell? ⟨w.heap.size, 11, none⟩ = some (.slice A4 z4.length c4) ∧ wr.cell? ⟨br, 0, none⟩ = some (.int .i64 a0) ∧ wr.cell? ⟨br, 1, none⟩ = some (.int .i64 b0) ∧ wr.cell? ⟨br, 2, none⟩ = some (.int .i64 a1) ∧ wr.cell? ⟨br, 3, none⟩ = some (.int .i64 b1)) ∧ Hid (∀ x y, (Insd x0 y0 x1 e x y ∨ Insd x0 e u (e + 1) x y) → Ther x0 y0 rt ys cs at4 z1.length z2.length z3.length z4.length x y)) (fun xv _ => (x1 - intOf xv).toNat)
      case atStart => exact ⟨x0, rfl, Int.le_refl _, by omega, KR, show Hid _ from fun x y h => (by rcases h with h | ⟨_, _, _, _⟩; exact HD.out x y h; omega)⟩
      case round =>
        obtain ⟨u, rfl, u1, u2, KR', HU⟩ := hrel
        clear KR D0 D1 D2 D3 D4 D5 D6 D7 D8 D9 D10 D11 R0 R1 R2 R3 hB
        have KR := KR'
        clear KR'
        obtain ⟨hB, D0, D1, D2, D3, D4, D5, D6, D7, D8, D9, D10, D11, R0, R1, R2, R3⟩ := id KR.out
        by_cases hjl : u < x1
        · have hI : Insd x0 y0 x1 y1 u e := ⟨u1, hjl, e1, hlt⟩
          have hO : Hid (Okay x0 y0 x1 y1 rt ys cs at4 u e) := ⟨hF.out, hI, hQ.out.1, hQ.out.2, m1', m2'⟩
          by_cases hT' : Ther x0 y0 rt ys cs at4 z1.length z2.length z3.length z4.length u e
          · have hT := Lib.hid hT'
            clear hT'
            go_wp2_with fail
            refine (there_any x0 y0 x1 y1 rt ys cs at4 A1 A2 A3 A4 c1 c2 c3 c4 z1 z2 z3 z4 u e _ hO true (by simp [hT.out])).mono ?_
            rintro e' w2 ⟨rfl, hb2⟩
            have KR2 : Hid (Below w.heap.size w w2 ∧ w2.cell? ⟨w.heap.size, 0, none⟩ = some (.int .i64 x0) ∧ w2.cell? ⟨w.heap.size, 1, none⟩ = some (.int .i64 y0) ∧ w2.cell? ⟨w.heap.size, 2, none⟩ = some (.int .i64 x1) ∧ w2.cell? ⟨w.heap.size, 3, none⟩ = some (.int .i64 y1) ∧ w2.cell? ⟨w.heap.size, 4, none⟩ = some (.int .i64 rt) ∧ w2.cell? ⟨w.heap.size, 5, none⟩ = some (.int .i64 ys) ∧ w2.cell? ⟨w.heap.size, 6, none⟩ = some (.int .i64 cs) ∧ w2.cell? ⟨w.heap.size, 7, none⟩ = some (.int .i64 at4) ∧ w2.cell? ⟨w.heap.size, 8, none⟩ = some (.slice A1 z1.length c1) ∧ w2.cell? ⟨w.heap.size, 9, none⟩ = some (.slice A2 z2.length c2) ∧ w2.cell? ⟨w.heap.size, 10, none⟩ = some (.slice A3 z3.length c3) ∧ w2.cell? ⟨w.heap.size, 11, none⟩ = some (.slice A4 z4.length c4) ∧ w2.cell? ⟨br, 0, none⟩ = some (.int .i64 a0) ∧ w2.cell? ⟨br, 1, none⟩ = some (.int .i64 b0) ∧ w2.cell? ⟨br, 2, none⟩ = some (.int .i64 a1) ∧ w2.cell? ⟨br, 3, none⟩ = some (.int .i64 b1)) := ⟨hB.trans (hb2.mono hB.size), cell_kept D0 hb2, cell_kept D1 hb2, cell_kept D2 hb2, cell_kept D3 hb2, cell_kept D4 hb2, cell_kept D5 hb2, cell_kept D6 hb2, cell_kept D7 hb2, cell_kept D8 hb2, cell_kept D9 hb2, cell_kept D10 hb2, cell_kept D11 hb2, cell_kept R0 hb2, cell_kept R1 hb2, cell_kept R2 hb2, cell_kept R3 hb2⟩
            clear KR D0 D1 D2 D3 D4 D5 D6 D7 D8 D9 D10 D11 R0 R1 R2 R3 hB hb2
            obtain ⟨hB, D0, D1, D2, D3, D4, D5, D6, D7, D8, D9, D10, D11, R0, R1, R2, R3⟩ := id KR2.out
            go_wp2
            go_roundw
            case rel => exact ⟨u + 1, by go_num, by omega, by omega, KR2, show Hid _ from (fun x y h => (by rcases h with h | ⟨h1, h2, h3, h4⟩; exact HU.out x y (Or.inl h); by_cases hx : x < u; exact HU.out x y (Or.inr ⟨h1, hx, h3, h4⟩); have ex : x = u := (by omega); have ey : y = e := (by omega); rw [ex, ey]; exact hT.out))⟩
            case measure => simp [intOf]; omega
          · have hT := Lib.hid hT'
            clear hT'
            go_wp2_with fail
            refine (there_any x0 y0 x1 y1 rt ys cs at4 A1 A2 A3 A4 c1 c2 c3 c4 z1 z2 z3 z4 u e _ hO false (by simp [hT.out])).mono ?_
            rintro e' w2 ⟨rfl, hb2⟩
            go_wp2
            go_ret
            exact ⟨by simp, hB.trans (hb2.mono hB.size)⟩
        · go_wp2
          go_roundw
          case rel => exact ⟨e + 1, by go_num, by omega, by omega, KR, show Hid _ from fun x y h => HU.out x y (by obtain ⟨_, _, _, _⟩ := h; by_cases hy : y < e; exact Or.inl ⟨by omega, by omega, by omega, hy⟩; exact Or.inr ⟨by omega, by omega, by omega, by omega⟩)⟩
          case measure => simp [intOf]; omega
    · have hA : AllT x0 y0 x1 y1 rt ys cs at4 z1.length z2.length z3.length z4.length := fun x y h => HD.out x y (by rw [show e = y1 by omega]; exact h)
      exact absurd hA hX.out

set_option maxRecDepth 100000 in
set_option maxHeartbeats 4000000 in
theorem sub_none (x0 y0 x1 y1 rt ys cs at4 : Int) (A1 A2 A3 A4 : Option Addr) (c1 c2 c3 c4 : Nat) (z1 z2 z3 z4 : List Int) (a0 b0 a1 b1 x y : Int) (w : World) (hr1 : Hid (Reads w A1 z1)) (hl1 : Small z1) (hn1 : Hid (A1 = none → c1 = 0)) (hr2 : Hid (Reads w A2 z2)) (hl2 : Small z2) (hn2 : Hid (A2 = none → c2 = 0)) (hr3 : Hid (Reads w A3 z3)) (hl3 : Small z3) (hn3 : Hid (A3 = none → c3 = 0)) (hr4 : Hid (Reads w A4 z4)) (hl4 : Small z4) (hn4 : Hid (A4 = none → c4 = 0)) (hF : Hid (FairF x0 y0 x1 y1 ys cs at4)) (hN : Hid (Near4 a0 b0 a1 b1)) (hQ : Hid (0 ≤ rt ∧ rt ≤ 5)) (m1' : 0 ≤ x0) (m2' : 0 ≤ y0) (hA : Hid (AllT x0 y0 x1 y1 rt ys cs at4 z1.length z2.length z3.length z4.length)) (hE : Hid (min x1 a1 ≤ max x0 a0 ∨ min y1 b1 ≤ max y0 b0)) :
    Calls Try.prog 4 #[.agg #[.int .i64 x0, .int .i64 y0, .int .i64 x1, .int .i64 y1, .int .i64 rt, .int .i64 ys, .int .i64 cs, .int .i64 at4, .slice A1 z1.length c1, .slice A2 z2.length c2, .slice A3 z3.length c3, .slice A4 z4.length c4], .agg #[.int .i64 a0, .int .i64 b0, .int .i64 a1, .int .i64 b1], .int .i64 x, .int .i64 y] w fun e w' => e = .returned (.bool true) ∧ Below w.heap.size w w' := by
  have hB : Below w.heap.size w ((w.alloc (.cells #[.int .i64 x0, .int .i64 y0, .int .i64 x1, .int .i64 y1, .int .i64 rt, .int .i64 ys, .int .i64 cs, .int .i64 at4, .slice A1 z1.length c1, .slice A2 z2.length c2, .slice A3 z3.length c3, .slice A4 z4.length c4] 30)).alloc (.cells #[.int .i64 a0, .int .i64 b0, .int .i64 a1, .int .i64 b1] 23)) := ((Below.refl _ _).alloc (Nat.le_refl _) _).alloc (by simp) _
  have D0 : ((w.alloc (.cells #[.int .i64 x0, .int .i64 y0, .int .i64 x1, .int .i64 y1, .int .i64 rt, .int .i64 ys, .int .i64 cs, .int .i64 at4, .slice A1 z1.length c1, .slice A2 z2.length c2, .slice A3 z3.length c3, .slice A4 z4.length c4] 30)).alloc (.cells #[.int .i64 a0, .int .i64 b0, .int .i64 a1, .int .i64 b1] 23)).cell? ⟨w.heap.size, 0, none⟩ = some (.int .i64 x0) := by first | (simp; done) | go_simp
  have D1 : ((w.alloc (.cells #[.int .i64 x0, .int .i64 y0, .int .i64 x1, .int .i64 y1, .int .i64 rt, .int .i64 ys, .int .i64 cs, .int .i64 at4, .slice A1 z1.length c1, .slice A2 z2.length c2, .slice A3 z3.length c3, .slice A4 z4.length c4] 30)).alloc (.cells #[.int .i64 a0, .int .i64 b0, .int .i64 a1, .int .i64 b1] 23)).cell? ⟨w.heap.size, 1, none⟩ = some (.int .i64 y0) := by first | (simp; done) | go_simp
  have D2 : ((w.alloc (.cells #[.int .i64 x0, .int .i64 y0, .int .i64 x1, .int .i64 y1, .int .i64 rt, .int .i64 ys, .int .i64 cs, .int .i64 at4, .slice A1 z1.length c1, .slice A2 z2.length c2, .slice A3 z3.length c3, .slice A4 z4.length c4] 30)).alloc (.cells #[.int .i64 a0, .int .i64 b0, .int .i64 a1, .int .i64 b1] 23)).cell? ⟨w.heap.size, 2, none⟩ = some (.int .i64 x1) := by first | (simp; done) | go_simp
  have D3 : ((w.alloc (.cells #[.int .i64 x0, .int .i64 y0, .int .i64 x1, .int .i64 y1, .int .i64 rt, .int .i64 ys, .int .i64 cs, .int .i64 at4, .slice A1 z1.length c1, .slice A2 z2.length c2, .slice A3 z3.length c3, .slice A4 z4.length c4] 30)).alloc (.cells #[.int .i64 a0, .int .i64 b0, .int .i64 a1, .int .i64 b1] 23)).cell? ⟨w.heap.size, 3, none⟩ = some (.int .i64 y1) := by first | (simp; done) | go_simp
  have D4 : ((w.alloc (.cells #[.int .i64 x0, .int .i64 y0, .int .i64 x1, .int .i64 y1, .int .i64 rt, .int .i64 ys, .int .i64 cs, .int .i64 at4, .slice A1 z1.length c1, .slice A2 z2.length c2, .slice A3 z3.length c3, .slice A4 z4.length c4] 30)).alloc (.cells #[.int .i64 a0, .int .i64 b0, .int .i64 a1, .int .i64 b1] 23)).cell? ⟨w.heap.size, 4, none⟩ = some (.int .i64 rt) := by first | (simp; done) | go_simp
  have D5 : ((w.alloc (.cells #[.int .i64 x0, .int .i64 y0, .int .i64 x1, .int .i64 y1, .int .i64 rt, .int .i64 ys, .int .i64 cs, .int .i64 at4, .slice A1 z1.length c1, .slice A2 z2.length c2, .slice A3 z3.length c3, .slice A4 z4.length c4] 30)).alloc (.cells #[.int .i64 a0, .int .i64 b0, .int .i64 a1, .int .i64 b1] 23)).cell? ⟨w.heap.size, 5, none⟩ = some (.int .i64 ys) := by first | (simp; done) | go_simp
  have D6 : ((w.alloc (.cells #[.int .i64 x0, .int .i64 y0, .int .i64 x1, .int .i64 y1, .int .i64 rt, .int .i64 ys, .int .i64 cs, .int .i64 at4, .slice A1 z1.length c1, .slice A2 z2.length c2, .slice A3 z3.length c3, .slice A4 z4.length c4] 30)).alloc (.cells #[.int .i64 a0, .int .i64 b0, .int .i64 a1, .int .i64 b1] 23)).cell? ⟨w.heap.size, 6, none⟩ = some (.int .i64 cs) := by first | (simp; done) | go_simp
  have D7 : ((w.alloc (.cells #[.int .i64 x0, .int .i64 y0, .int .i64 x1, .int .i64 y1, .int .i64 rt, .int .i64 ys, .int .i64 cs, .int .i64 at4, .slice A1 z1.length c1, .slice A2 z2.length c2, .slice A3 z3.length c3, .slice A4 z4.length c4] 30)).alloc (.cells #[.int .i64 a0, .int .i64 b0, .int .i64 a1, .int .i64 b1] 23)).cell? ⟨w.heap.size, 7, none⟩ = some (.int .i64 at4) := by first | (simp; done) | go_simp
  have D8 : ((w.alloc (.cells #[.int .i64 x0, .int .i64 y0, .int .i64 x1, .int .i64 y1, .int .i64 rt, .int .i64 ys, .int .i64 cs, .int .i64 at4, .slice A1 z1.length c1, .slice A2 z2.length c2, .slice A3 z3.length c3, .slice A4 z4.length c4] 30)).alloc (.cells #[.int .i64 a0, .int .i64 b0, .int .i64 a1, .int .i64 b1] 23)).cell? ⟨w.heap.size, 8, none⟩ = some (.slice A1 z1.length c1) := by first | (simp; done) | go_simp
  have D9 : ((w.alloc (.cells #[.int .i64 x0, .int .i64 y0, .int .i64 x1, .int .i64 y1, .int .i64 rt, .int .i64 ys, .int .i64 cs, .int .i64 at4, .slice A1 z1.length c1, .slice A2 z2.length c2, .slice A3 z3.length c3, .slice A4 z4.length c4] 30)).alloc (.cells #[.int .i64 a0, .int .i64 b0, .int .i64 a1, .int .i64 b1] 23)).cell? ⟨w.heap.size, 9, none⟩ = some (.slice A2 z2.length c2) := by first | (simp; done) | go_simp
  have D10 : ((w.alloc (.cells #[.int .i64 x0, .int .i64 y0, .int .i64 x1, .int .i64 y1, .int .i64 rt, .int .i64 ys, .int .i64 cs, .int .i64 at4, .slice A1 z1.length c1, .slice A2 z2.length c2, .slice A3 z3.length c3, .slice A4 z4.length c4] 30)).alloc (.cells #[.int .i64 a0, .int .i64 b0, .int .i64 a1, .int .i64 b1] 23)).cell? ⟨w.heap.size, 10, none⟩ = some (.slice A3 z3.length c3) := by first | (simp; done) | go_simp
  have D11 : ((w.alloc (.cells #[.int .i64 x0, .int .i64 y0, .int .i64 x1, .int .i64 y1, .int .i64 rt, .int .i64 ys, .int .i64 cs, .int .i64 at4, .slice A1 z1.length c1, .slice A2 z2.length c2, .slice A3 z3.length c3, .slice A4 z4.length c4] 30)).alloc (.cells #[.int .i64 a0, .int .i64 b0, .int .i64 a1, .int .i64 b1] 23)).cell? ⟨w.heap.size, 11, none⟩ = some (.slice A4 z4.length c4) := by first | (simp; done) | go_simp
  have R0 : ((w.alloc (.cells #[.int .i64 x0, .int .i64 y0, .int .i64 x1, .int .i64 y1, .int .i64 rt, .int .i64 ys, .int .i64 cs, .int .i64 at4, .slice A1 z1.length c1, .slice A2 z2.length c2, .slice A3 z3.length c3, .slice A4 z4.length c4] 30)).alloc (.cells #[.int .i64 a0, .int .i64 b0, .int .i64 a1, .int .i64 b1] 23)).cell? ⟨w.heap.size + 1, 0, none⟩ = some (.int .i64 a0) := by first | (simp; done) | go_simp
  have R1 : ((w.alloc (.cells #[.int .i64 x0, .int .i64 y0, .int .i64 x1, .int .i64 y1, .int .i64 rt, .int .i64 ys, .int .i64 cs, .int .i64 at4, .slice A1 z1.length c1, .slice A2 z2.length c2, .slice A3 z3.length c3, .slice A4 z4.length c4] 30)).alloc (.cells #[.int .i64 a0, .int .i64 b0, .int .i64 a1, .int .i64 b1] 23)).cell? ⟨w.heap.size + 1, 1, none⟩ = some (.int .i64 b0) := by first | (simp; done) | go_simp
  have R2 : ((w.alloc (.cells #[.int .i64 x0, .int .i64 y0, .int .i64 x1, .int .i64 y1, .int .i64 rt, .int .i64 ys, .int .i64 cs, .int .i64 at4, .slice A1 z1.length c1, .slice A2 z2.length c2, .slice A3 z3.length c3, .slice A4 z4.length c4] 30)).alloc (.cells #[.int .i64 a0, .int .i64 b0, .int .i64 a1, .int .i64 b1] 23)).cell? ⟨w.heap.size + 1, 2, none⟩ = some (.int .i64 a1) := by first | (simp; done) | go_simp
  have R3 : ((w.alloc (.cells #[.int .i64 x0, .int .i64 y0, .int .i64 x1, .int .i64 y1, .int .i64 rt, .int .i64 ys, .int .i64 cs, .int .i64 at4, .slice A1 z1.length c1, .slice A2 z2.length c2, .slice A3 z3.length c3, .slice A4 z4.length c4] 30)).alloc (.cells #[.int .i64 a0, .int .i64 b0, .int .i64 a1, .int .i64 b1] 23)).cell? ⟨w.heap.size + 1, 3, none⟩ = some (.int .i64 b1) := by first | (simp; done) | go_simp
  have HR1 := Lib.hid (hr1.out.below hB)
  have HR2 := Lib.hid (hr2.out.below hB)
  have HR3 := Lib.hid (hr3.out.below hB)
  have HR4 := Lib.hid (hr4.out.below hB)
  go_enter Try.func4, Try.ntmps4
  go_wp2_with fail
  generalize (w.alloc (.cells #[.int .i64 x0, .int .i64 y0, .int .i64 x1, .int .i64 y1, .int .i64 rt, .int .i64 ys, .int .i64 cs, .int .i64 at4, .slice A1 z1.length c1, .slice A2 z2.length c2, .slice A3 z3.length c3, .slice A4 z4.length c4] 30)).alloc (.cells #[.int .i64 a0, .int .i64 b0, .int .i64 a1, .int .i64 b1] 23) = W0 at *
  generalize w.heap.size + 1 = br at *
  go_wp2_with fail
  refine (fairF_any x0 y0 x1 y1 rt ys cs at4 A1 A2 A3 A4 c1 c2 c3 c4 z1 z2 z3 z4 true (by simp [hF.out]) _).mono ?_
  rintro e w1 ⟨rfl, hb1⟩
  replace D0 := cell_kept D0 hb1
  replace D1 := cell_kept D1 hb1
  replace D2 := cell_kept D2 hb1
  replace D3 := cell_kept D3 hb1
  replace D4 := cell_kept D4 hb1
  replace D5 := cell_kept D5 hb1
  replace D6 := cell_kept D6 hb1
  replace D7 := cell_kept D7 hb1
  replace D8 := cell_kept D8 hb1
  replace D9 := cell_kept D9 hb1
  replace D10 := cell_kept D10 hb1
  replace D11 := cell_kept D11 hb1
  replace R0 := cell_kept R0 hb1
  replace R1 := cell_kept R1 hb1
  replace R2 := cell_kept R2 hb1
  replace R3 := cell_kept R3 hb1
  replace HR1 := Lib.hid (HR1.out.below hb1)
  replace HR2 := Lib.hid (HR2.out.below hb1)
  replace HR3 := Lib.hid (HR3.out.below hb1)
  replace HR4 := Lib.hid (HR4.out.below hb1)
  replace hB := hB.trans (hb1.mono hB.size)
  clear hb1
  go_wp2_with fail
  refine (box_any a0 b0 a1 b1 _).mono ?_
  rintro e w2 ⟨rfl, hb2⟩
  replace D0 := cell_kept D0 hb2
  replace D1 := cell_kept D1 hb2
  replace D2 := cell_kept D2 hb2
  replace D3 := cell_kept D3 hb2
  replace D4 := cell_kept D4 hb2
  replace D5 := cell_kept D5 hb2
  replace D6 := cell_kept D6 hb2
  replace D7 := cell_kept D7 hb2
  replace D8 := cell_kept D8 hb2
  replace D9 := cell_kept D9 hb2
  replace D10 := cell_kept D10 hb2
  replace D11 := cell_kept D11 hb2
  replace R0 := cell_kept R0 hb2
  replace R1 := cell_kept R1 hb2
  replace R2 := cell_kept R2 hb2
  replace R3 := cell_kept R3 hb2
  replace HR1 := Lib.hid (HR1.out.below hb2)
  replace HR2 := Lib.hid (HR2.out.below hb2)
  replace HR3 := Lib.hid (HR3.out.below hb2)
  replace HR4 := Lib.hid (HR4.out.below hb2)
  replace hB := hB.trans (hb2.mono hB.size)
  clear hb2
  go_wp2_with fail
  refine (near4_any a0 b0 a1 b1 true (by simp [hN.out]) _).mono ?_
  rintro e w3 ⟨rfl, hb3⟩
  replace D0 := cell_kept D0 hb3
  replace D1 := cell_kept D1 hb3
  replace D2 := cell_kept D2 hb3
  replace D3 := cell_kept D3 hb3
  replace D4 := cell_kept D4 hb3
  replace D5 := cell_kept D5 hb3
  replace D6 := cell_kept D6 hb3
  replace D7 := cell_kept D7 hb3
  replace D8 := cell_kept D8 hb3
  replace D9 := cell_kept D9 hb3
  replace D10 := cell_kept D10 hb3
  replace D11 := cell_kept D11 hb3
  replace R0 := cell_kept R0 hb3
  replace R1 := cell_kept R1 hb3
  replace R2 := cell_kept R2 hb3
  replace R3 := cell_kept R3 hb3
  replace HR1 := Lib.hid (HR1.out.below hb3)
  replace HR2 := Lib.hid (HR2.out.below hb3)
  replace HR3 := Lib.hid (HR3.out.below hb3)
  replace HR4 := Lib.hid (HR4.out.below hb3)
  replace hB := hB.trans (hb3.mono hB.size)
  clear hb3
  go_wp2_with fail
  refine (ratio_any rt true (by have := hQ.out; simp only [this]; simp) _).mono ?_
  rintro e w' ⟨rfl, rfl⟩
  have HS : Hid (Below w.heap.size w w3 ∧ w3.cell? ⟨w.heap.size, 0, none⟩ = some (.int .i64 x0) ∧ w3.cell? ⟨w.heap.size, 1, none⟩ = some (.int .i64 y0) ∧ w3.cell? ⟨w.heap.size, 2, none⟩ = some (.int .i64 x1) ∧ w3.cell? ⟨w.heap.size, 3, none⟩ = some (.int .i64 y1) ∧ w3.cell? ⟨w.heap.size, 4, none⟩ = some (.int .i64 rt) ∧ w3.cell? ⟨w.heap.size, 5, none⟩ = some (.int .i64 ys) ∧ w3.cell? ⟨w.heap.size, 6, none⟩ = some (.int .i64 cs) ∧ w3.cell? ⟨w.heap.size, 7, none⟩ = some (.int .i64 at4) ∧ w3.cell? ⟨w.heap.size, 8, none⟩ = some (.slice A1 z1.length c1) ∧ w3.cell? ⟨w.heap.size, 9, none⟩ = some (.slice A2 z2.length c2) ∧ w3.cell? ⟨w.heap.size, 10, none⟩ = some (.slice A3 z3.length c3) ∧ w3.cell? ⟨w.heap.size, 11, none⟩ = some (.slice A4 z4.length c4) ∧ w3.cell? ⟨br, 0, none⟩ = some (.int .i64 a0) ∧ w3.cell? ⟨br, 1, none⟩ = some (.int .i64 b0) ∧ w3.cell? ⟨br, 2, none⟩ = some (.int .i64 a1) ∧ w3.cell? ⟨br, 3, none⟩ = some (.int .i64 b1)) := ⟨hB, D0, D1, D2, D3, D4, D5, D6, D7, D8, D9, D10, D11, R0, R1, R2, R3⟩
  obtain ⟨⟨⟨⟨f1, f2⟩, ⟨f3, f4⟩, ⟨f5, f6⟩, ⟨f7, f8⟩⟩, f9, f10, _⟩, _⟩ := id hF.out
  clear HR1 HR2 HR3 HR4
  go_wp2
  go_loopw [9] (fun yv wr => ∃ e : Int, yv = .int .i64 e ∧ y0 ≤ e ∧ e ≤ y1 ∧ Hid (Below w.heap.size w wr ∧ wr.cell? ⟨w.heap.size, 0, none⟩ = some (.int .i64 x0) ∧ wr.cell? ⟨w.heap.size, 1, none⟩ = some (.int .i64 y0) ∧ wr.cell? ⟨w.heap.size, 2, none⟩ = some (.int .i64 x1) ∧ wr.cell? ⟨w.heap.size, 3, none⟩ = some (.int .i64 y1) ∧ wr.cell? ⟨w.heap.size, 4, none⟩ = some (.int .i64 rt) ∧ wr.cell? ⟨w.heap.size, 5, none⟩ = some (.int .i64 ys) ∧ wr.cell? ⟨w.heap.size, 6, none⟩ = some (.int .i64 cs) ∧ wr.cell? ⟨w.heap.size, 7, none⟩ = some (.int .i64 at4) ∧ wr.cell? ⟨w.heap.size, 8, none⟩ = some (.slice A1 z1.length c1) ∧ wr.cell? ⟨w.heap.size, 9, none⟩ = some (.slice A2 z2.length c2) ∧ wr.cell? ⟨w.heap.size, 10, none⟩ = some (.slice A3 z3.length c3) ∧ wr.cell? ⟨w.heap.size, 11, none⟩ = some (.slice A4 z4.length c4) ∧ wr.cell? ⟨br, 0, none⟩ = some (.int .i64 a0) ∧ wr.cell? ⟨br, 1, none⟩ = some (.int .i64 b0) ∧ wr.cell? ⟨br, 2, none⟩ = some (.int .i64 a1) ∧ wr.cell? ⟨br, 3, none⟩ = some (.int .i64 b1))) (fun yv _ => (y1 - intOf yv).toNat)
  case atStart => exact ⟨y0, rfl, Int.le_refl _, by omega, HS⟩
  case round =>
    obtain ⟨e, rfl, e1, e2, KR⟩ := hrel
    clear HS D0 D1 D2 D3 D4 D5 D6 D7 D8 D9 D10 D11 R0 R1 R2 R3 hB
    obtain ⟨hB, D0, D1, D2, D3, D4, D5, D6, D7, D8, D9, D10, D11, R0, R1, R2, R3⟩ := id KR.out
    by_cases hlt : e < y1
    · go_wp2
      go_loopw [10] (fun xv wr => ∃ u : Int, xv = .int .i64 u ∧ x0 ≤ u ∧ u ≤ x1 ∧ Hid (Below w.heap.size w wr ∧ wr.cell? ⟨w.heap.size, 0, none⟩ = some (.int .i64 x0) ∧ wr.cell? ⟨w.heap.size, 1, none⟩ = some (.int .i64 y0) ∧ wr.cell? ⟨w.heap.size, 2, none⟩ = some (.int .i64 x1) ∧ wr.cell? ⟨w.heap.size, 3, none⟩ = some (.int .i64 y1) ∧ wr.cell? ⟨w.heap.size, 4, none⟩ = some (.int .i64 rt) ∧ wr.cell? ⟨w.heap.size, 5, none⟩ = some (.int .i64 ys) ∧ wr.cell? ⟨w.heap.size, 6, none⟩ = some (.int .i64 cs) ∧ wr.cell? ⟨w.heap.size, 7, none⟩ = some (.int .i64 at4) ∧ wr.cell? ⟨w.heap.size, 8, none⟩ = some (.slice A1 z1.length c1) ∧ wr.cell? ⟨w.heap.size, 9, none⟩ = some (.slice A2 z2.length c2) ∧ wr.cell? ⟨w.heap.size, 10, none⟩ = some (.slice A3 z3.length c3) ∧ wr.cell? ⟨w.heap.size, 11, none⟩ = some (.slice A4 z4.length c4) ∧ wr.cell? ⟨br, 0, none⟩ = some (.int .i64 a0) ∧ wr.cell? ⟨br, 1, none⟩ = some (.int .i64 b0) ∧ wr.cell? ⟨br, 2, none⟩ = some (.int .i64 a1) ∧ wr.cell? ⟨br, 3, none⟩ = some (.int .i64 b1))) (fun xv _ => (x1 - intOf xv).toNat)
      case atStart => exact ⟨x0, rfl, Int.le_refl _, by omega, KR⟩
      case round =>
        obtain ⟨u, rfl, u1, u2, KR'⟩ := hrel
        clear KR D0 D1 D2 D3 D4 D5 D6 D7 D8 D9 D10 D11 R0 R1 R2 R3 hB
        have KR := KR'
        clear KR'
        obtain ⟨hB, D0, D1, D2, D3, D4, D5, D6, D7, D8, D9, D10, D11, R0, R1, R2, R3⟩ := id KR.out
        by_cases hjl : u < x1
        · have hI : Insd x0 y0 x1 y1 u e := ⟨u1, hjl, e1, hlt⟩
          have hO : Hid (Okay x0 y0 x1 y1 rt ys cs at4 u e) := ⟨hF.out, hI, hQ.out.1, hQ.out.2, m1', m2'⟩
          have hT := Lib.hid (hA.out u e hI)
          go_wp2_with fail
          refine (there_any x0 y0 x1 y1 rt ys cs at4 A1 A2 A3 A4 c1 c2 c3 c4 z1 z2 z3 z4 u e _ hO true (by simp [hT.out])).mono ?_
          rintro e' w2 ⟨rfl, hb2⟩
          have KR2 : Hid (Below w.heap.size w w2 ∧ w2.cell? ⟨w.heap.size, 0, none⟩ = some (.int .i64 x0) ∧ w2.cell? ⟨w.heap.size, 1, none⟩ = some (.int .i64 y0) ∧ w2.cell? ⟨w.heap.size, 2, none⟩ = some (.int .i64 x1) ∧ w2.cell? ⟨w.heap.size, 3, none⟩ = some (.int .i64 y1) ∧ w2.cell? ⟨w.heap.size, 4, none⟩ = some (.int .i64 rt) ∧ w2.cell? ⟨w.heap.size, 5, none⟩ = some (.int .i64 ys) ∧ w2.cell? ⟨w.heap.size, 6, none⟩ = some (.int .i64 cs) ∧ w2.cell? ⟨w.heap.size, 7, none⟩ = some (.int .i64 at4) ∧ w2.cell? ⟨w.heap.size, 8, none⟩ = some (.slice A1 z1.length c1) ∧ w2.cell? ⟨w.heap.size, 9, none⟩ = some (.slice A2 z2.length c2) ∧ w2.cell? ⟨w.heap.size, 10, none⟩ = some (.slice A3 z3.length c3) ∧ w2.cell? ⟨w.heap.size, 11, none⟩ = some (.slice A4 z4.length c4) ∧ w2.cell? ⟨br, 0, none⟩ = some (.int .i64 a0) ∧ w2.cell? ⟨br, 1, none⟩ = some (.int .i64 b0) ∧ w2.cell? ⟨br, 2, none⟩ = some (.int .i64 a1) ∧ w2.cell? ⟨br, 3, none⟩ = some (.int .i64 b1)) := ⟨hB.trans (hb2.mono hB.size), cell_kept D0 hb2, cell_kept D1 hb2, cell_kept D2 hb2, cell_kept D3 hb2, cell_kept D4 hb2, cell_kept D5 hb2, cell_kept D6 hb2, cell_kept D7 hb2, cell_kept D8 hb2, cell_kept D9 hb2, cell_kept D10 hb2, cell_kept D11 hb2, cell_kept R0 hb2, cell_kept R1 hb2, cell_kept R2 hb2, cell_kept R3 hb2⟩
          clear KR D0 D1 D2 D3 D4 D5 D6 D7 D8 D9 D10 D11 R0 R1 R2 R3 hB hb2
          obtain ⟨hB, D0, D1, D2, D3, D4, D5, D6, D7, D8, D9, D10, D11, R0, R1, R2, R3⟩ := id KR2.out
          go_wp2
          go_roundw
          case rel => exact ⟨u + 1, by go_num, by omega, by omega, KR2⟩
          case measure => simp [intOf]; omega
        · go_wp2
          go_roundw
          case rel => exact ⟨e + 1, by go_num, by omega, by omega, KR⟩
          case measure => simp [intOf]; omega
    · have HR1 := Lib.hid (hr1.out.below hB)
      have HR2 := Lib.hid (hr2.out.below hB)
      have HR3 := Lib.hid (hr3.out.below hB)
      have HR4 := Lib.hid (hr4.out.below hB)
      clear KR
      go_wp2_with fail
      refine (implSub_none x0 y0 x1 y1 rt ys cs at4 A1 A2 A3 A4 c1 c2 c3 c4 z1 z2 z3 z4 a0 b0 a1 b1 _ HR1 hl1 hn1 HR2 hl2 hn2 HR3 hl3 hn3 HR4 hl4 hn4 hE).mono ?_
      rintro e w1 ⟨E1, E2, E3, E4, f1', f2', f3', f4', rfl, ho1, ho2, ho3, ho4, hb1⟩
      have HO1 := Lib.hid ho1
      have HO2 := Lib.hid ho2
      have HO3 := Lib.hid ho3
      have HO4 := Lib.hid ho4
      clear ho1 ho2 ho3 ho4
      replace D0 := cell_kept D0 hb1
      replace D1 := cell_kept D1 hb1
      replace D2 := cell_kept D2 hb1
      replace D3 := cell_kept D3 hb1
      replace D4 := cell_kept D4 hb1
      replace D5 := cell_kept D5 hb1
      replace D6 := cell_kept D6 hb1
      replace D7 := cell_kept D7 hb1
      replace D8 := cell_kept D8 hb1
      replace D9 := cell_kept D9 hb1
      replace D10 := cell_kept D10 hb1
      replace D11 := cell_kept D11 hb1
      replace R0 := cell_kept R0 hb1
      replace R1 := cell_kept R1 hb1
      replace R2 := cell_kept R2 hb1
      replace R3 := cell_kept R3 hb1
      replace HR1 := Lib.hid (HR1.out.below hb1)
      replace HR2 := Lib.hid (HR2.out.below hb1)
      replace HR3 := Lib.hid (HR3.out.below hb1)
      replace HR4 := Lib.hid (HR4.out.below hb1)
      replace hB := hB.trans (hb1.mono hB.size)
      clear hb1
      have aw : Below w1.heap.size w1 (w1.alloc (.cells #[.int .i64 0, .int .i64 0, .int .i64 0, .int .i64 0, .int .i64 rt, .int .i64 0, .int .i64 0, .int .i64 0, .slice E1 ([] : List Int).length f1', .slice E2 ([] : List Int).length f2', .slice E3 ([] : List Int).length f3', .slice E4 ([] : List Int).length f4'] 30)) := (Below.refl _ _).alloc (Nat.le_refl _) _
      replace D0 := cell_kept D0 aw
      replace D1 := cell_kept D1 aw
      replace D2 := cell_kept D2 aw
      replace D3 := cell_kept D3 aw
      replace D4 := cell_kept D4 aw
      replace D5 := cell_kept D5 aw
      replace D6 := cell_kept D6 aw
      replace D7 := cell_kept D7 aw
      replace D8 := cell_kept D8 aw
      replace D9 := cell_kept D9 aw
      replace D10 := cell_kept D10 aw
      replace D11 := cell_kept D11 aw
      replace R0 := cell_kept R0 aw
      replace R1 := cell_kept R1 aw
      replace R2 := cell_kept R2 aw
      replace R3 := cell_kept R3 aw
      replace HR1 := Lib.hid (HR1.out.below aw)
      replace HR2 := Lib.hid (HR2.out.below aw)
      replace HR3 := Lib.hid (HR3.out.below aw)
      replace HR4 := Lib.hid (HR4.out.below aw)
      replace HO1 := Lib.hid (ownsRow_below HO1.out aw)
      replace HO2 := Lib.hid (ownsRow_below HO2.out aw)
      replace HO3 := Lib.hid (ownsRow_below HO3.out aw)
      replace HO4 := Lib.hid (ownsRow_below HO4.out aw)
      replace hB := hB.trans (aw.mono hB.size)
      have M0 : (w1.alloc (.cells #[.int .i64 0, .int .i64 0, .int .i64 0, .int .i64 0, .int .i64 rt, .int .i64 0, .int .i64 0, .int .i64 0, .slice E1 ([] : List Int).length f1', .slice E2 ([] : List Int).length f2', .slice E3 ([] : List Int).length f3', .slice E4 ([] : List Int).length f4'] 30)).cell? ⟨w1.heap.size, 0, none⟩ = some (.int .i64 0) := by simp
      have M1 : (w1.alloc (.cells #[.int .i64 0, .int .i64 0, .int .i64 0, .int .i64 0, .int .i64 rt, .int .i64 0, .int .i64 0, .int .i64 0, .slice E1 ([] : List Int).length f1', .slice E2 ([] : List Int).length f2', .slice E3 ([] : List Int).length f3', .slice E4 ([] : List Int).length f4'] 30)).cell? ⟨w1.heap.size, 1, none⟩ = some (.int .i64 0) := by simp
      have M2 : (w1.alloc (.cells #[.int .i64 0, .int .i64 0, .int .i64 0, .int .i64 0, .int .i64 rt, .int .i64 0, .int .i64 0, .int .i64 0, .slice E1 ([] : List Int).length f1', .slice E2 ([] : List Int).length f2', .slice E3 ([] : List Int).length f3', .slice E4 ([] : List Int).length f4'] 30)).cell? ⟨w1.heap.size, 2, none⟩ = some (.int .i64 0) := by simp
      have M3 : (w1.alloc (.cells #[.int .i64 0, .int .i64 0, .int .i64 0, .int .i64 0, .int .i64 rt, .int .i64 0, .int .i64 0, .int .i64 0, .slice E1 ([] : List Int).length f1', .slice E2 ([] : List Int).length f2', .slice E3 ([] : List Int).length f3', .slice E4 ([] : List Int).length f4'] 30)).cell? ⟨w1.heap.size, 3, none⟩ = some (.int .i64 0) := by simp
      have M4 : (w1.alloc (.cells #[.int .i64 0, .int .i64 0, .int .i64 0, .int .i64 0, .int .i64 rt, .int .i64 0, .int .i64 0, .int .i64 0, .slice E1 ([] : List Int).length f1', .slice E2 ([] : List Int).length f2', .slice E3 ([] : List Int).length f3', .slice E4 ([] : List Int).length f4'] 30)).cell? ⟨w1.heap.size, 4, none⟩ = some (.int .i64 rt) := by simp
      have M5 : (w1.alloc (.cells #[.int .i64 0, .int .i64 0, .int .i64 0, .int .i64 0, .int .i64 rt, .int .i64 0, .int .i64 0, .int .i64 0, .slice E1 ([] : List Int).length f1', .slice E2 ([] : List Int).length f2', .slice E3 ([] : List Int).length f3', .slice E4 ([] : List Int).length f4'] 30)).cell? ⟨w1.heap.size, 5, none⟩ = some (.int .i64 0) := by simp
      have M6 : (w1.alloc (.cells #[.int .i64 0, .int .i64 0, .int .i64 0, .int .i64 0, .int .i64 rt, .int .i64 0, .int .i64 0, .int .i64 0, .slice E1 ([] : List Int).length f1', .slice E2 ([] : List Int).length f2', .slice E3 ([] : List Int).length f3', .slice E4 ([] : List Int).length f4'] 30)).cell? ⟨w1.heap.size, 6, none⟩ = some (.int .i64 0) := by simp
      have M7 : (w1.alloc (.cells #[.int .i64 0, .int .i64 0, .int .i64 0, .int .i64 0, .int .i64 rt, .int .i64 0, .int .i64 0, .int .i64 0, .slice E1 ([] : List Int).length f1', .slice E2 ([] : List Int).length f2', .slice E3 ([] : List Int).length f3', .slice E4 ([] : List Int).length f4'] 30)).cell? ⟨w1.heap.size, 7, none⟩ = some (.int .i64 0) := by simp
      have M8 : (w1.alloc (.cells #[.int .i64 0, .int .i64 0, .int .i64 0, .int .i64 0, .int .i64 rt, .int .i64 0, .int .i64 0, .int .i64 0, .slice E1 ([] : List Int).length f1', .slice E2 ([] : List Int).length f2', .slice E3 ([] : List Int).length f3', .slice E4 ([] : List Int).length f4'] 30)).cell? ⟨w1.heap.size, 8, none⟩ = some (.slice E1 ([] : List Int).length f1') := by simp
      have M9 : (w1.alloc (.cells #[.int .i64 0, .int .i64 0, .int .i64 0, .int .i64 0, .int .i64 rt, .int .i64 0, .int .i64 0, .int .i64 0, .slice E1 ([] : List Int).length f1', .slice E2 ([] : List Int).length f2', .slice E3 ([] : List Int).length f3', .slice E4 ([] : List Int).length f4'] 30)).cell? ⟨w1.heap.size, 9, none⟩ = some (.slice E2 ([] : List Int).length f2') := by simp
      have M10 : (w1.alloc (.cells #[.int .i64 0, .int .i64 0, .int .i64 0, .int .i64 0, .int .i64 rt, .int .i64 0, .int .i64 0, .int .i64 0, .slice E1 ([] : List Int).length f1', .slice E2 ([] : List Int).length f2', .slice E3 ([] : List Int).length f3', .slice E4 ([] : List Int).length f4'] 30)).cell? ⟨w1.heap.size, 10, none⟩ = some (.slice E3 ([] : List Int).length f3') := by simp
      have M11 : (w1.alloc (.cells #[.int .i64 0, .int .i64 0, .int .i64 0, .int .i64 0, .int .i64 rt, .int .i64 0, .int .i64 0, .int .i64 0, .slice E1 ([] : List Int).length f1', .slice E2 ([] : List Int).length f2', .slice E3 ([] : List Int).length f3', .slice E4 ([] : List Int).length f4'] 30)).cell? ⟨w1.heap.size, 11, none⟩ = some (.slice E4 ([] : List Int).length f4') := by simp
      have hltWA : w1.heap.size < (w1.alloc (.cells #[.int .i64 0, .int .i64 0, .int .i64 0, .int .i64 0, .int .i64 rt, .int .i64 0, .int .i64 0, .int .i64 0, .slice E1 ([] : List Int).length f1', .slice E2 ([] : List Int).length f2', .slice E3 ([] : List Int).length f3', .slice E4 ([] : List Int).length f4'] 30)).heap.size := by simp
      clear aw
      go_wp2_with fail
      generalize w1.alloc (.cells #[.int .i64 0, .int .i64 0, .int .i64 0, .int .i64 0, .int .i64 rt, .int .i64 0, .int .i64 0, .int .i64 0, .slice E1 ([] : List Int).length f1', .slice E2 ([] : List Int).length f2', .slice E3 ([] : List Int).length f3', .slice E4 ([] : List Int).length f4'] 30) = WA at *
      generalize w1.heap.size = ba at *
      have tok1 : True := trivial
      go_upto_region 12 with fail
      have P0 : Below WA.heap.size WA WA.drew := (Below.refl _ _).drew
      have P0a : Below WA.heap.size WA (WA.alloc (.cells #[.int .i64 0, .int .i64 0, .int .i64 0, .int .i64 0] 25)).drew := ((Below.refl _ _).alloc (Nat.le_refl _) _).drew
      have toS : ∀ W' : World, Below WA.heap.size WA W' → (W'.cell? ⟨w.heap.size, 0, none⟩ = some (.int .i64 x0) ∧ W'.cell? ⟨w.heap.size, 1, none⟩ = some (.int .i64 y0) ∧ W'.cell? ⟨w.heap.size, 2, none⟩ = some (.int .i64 x1) ∧ W'.cell? ⟨w.heap.size, 3, none⟩ = some (.int .i64 y1) ∧ W'.cell? ⟨w.heap.size, 4, none⟩ = some (.int .i64 rt) ∧ W'.cell? ⟨w.heap.size, 5, none⟩ = some (.int .i64 ys) ∧ W'.cell? ⟨w.heap.size, 6, none⟩ = some (.int .i64 cs) ∧ W'.cell? ⟨w.heap.size, 7, none⟩ = some (.int .i64 at4) ∧ W'.cell? ⟨w.heap.size, 8, none⟩ = some (.slice A1 z1.length c1) ∧ W'.cell? ⟨w.heap.size, 9, none⟩ = some (.slice A2 z2.length c2) ∧ W'.cell? ⟨w.heap.size, 10, none⟩ = some (.slice A3 z3.length c3) ∧ W'.cell? ⟨w.heap.size, 11, none⟩ = some (.slice A4 z4.length c4) ∧ W'.cell? ⟨br, 0, none⟩ = some (.int .i64 a0) ∧ W'.cell? ⟨br, 1, none⟩ = some (.int .i64 b0) ∧ W'.cell? ⟨br, 2, none⟩ = some (.int .i64 a1) ∧ W'.cell? ⟨br, 3, none⟩ = some (.int .i64 b1)) := fun W' h => ⟨cell_kept D0 h, cell_kept D1 h, cell_kept D2 h, cell_kept D3 h, cell_kept D4 h, cell_kept D5 h, cell_kept D6 h, cell_kept D7 h, cell_kept D8 h, cell_kept D9 h, cell_kept D10 h, cell_kept D11 h, cell_kept R0 h, cell_kept R1 h, cell_kept R2 h, cell_kept R3 h⟩
      have TOS := Lib.hid toS
      clear toS
      go_cut [13, 14] (fun pp qq wx => ∃ bc : Nat, pp = .pointer (some ⟨bc, 0, none⟩) ∧ qq = .bool false ∧ WA.heap.size ≤ bc ∧ bc < wx.heap.size ∧ Below WA.heap.size WA wx ∧ wx.cell? ⟨bc, 0, none⟩ = some (.int .i64 0) ∧ wx.cell? ⟨bc, 1, none⟩ = some (.int .i64 0) ∧ wx.cell? ⟨bc, 2, none⟩ = some (.int .i64 0) ∧ wx.cell? ⟨bc, 3, none⟩ = some (.int .i64 0))
      case first =>
        go_region_held3 (fun w' => w'.cell? ⟨w.heap.size, 0, none⟩ = some (.int .i64 x0) ∧ w'.cell? ⟨w.heap.size, 1, none⟩ = some (.int .i64 y0) ∧ w'.cell? ⟨w.heap.size, 2, none⟩ = some (.int .i64 x1) ∧ w'.cell? ⟨w.heap.size, 3, none⟩ = some (.int .i64 y1) ∧ w'.cell? ⟨w.heap.size, 4, none⟩ = some (.int .i64 rt) ∧ w'.cell? ⟨w.heap.size, 5, none⟩ = some (.int .i64 ys) ∧ w'.cell? ⟨w.heap.size, 6, none⟩ = some (.int .i64 cs) ∧ w'.cell? ⟨w.heap.size, 7, none⟩ = some (.int .i64 at4) ∧ w'.cell? ⟨w.heap.size, 8, none⟩ = some (.slice A1 z1.length c1) ∧ w'.cell? ⟨w.heap.size, 9, none⟩ = some (.slice A2 z2.length c2) ∧ w'.cell? ⟨w.heap.size, 10, none⟩ = some (.slice A3 z3.length c3) ∧ w'.cell? ⟨w.heap.size, 11, none⟩ = some (.slice A4 z4.length c4) ∧ w'.cell? ⟨br, 0, none⟩ = some (.int .i64 a0) ∧ w'.cell? ⟨br, 1, none⟩ = some (.int .i64 b0) ∧ w'.cell? ⟨br, 2, none⟩ = some (.int .i64 a1) ∧ w'.cell? ⟨br, 3, none⟩ = some (.int .i64 b1))
          ((refine TOS.out _ ?_; first | with_reducible exact P0 | with_reducible exact P0a | with_reducible exact P1 | with_reducible exact P1.alloc P1.size _ | with_reducible exact P2 | with_reducible exact P2.alloc P2.size _ | with_reducible exact P3 | with_reducible exact P3.alloc P3.size _ | with_reducible exact ((((P3.setCell (Nat.le_refl _) _).setCell (Nat.le_refl _) _).setCell (Nat.le_refl _) _).setCell (Nat.le_refl _) _) | with_reducible exact ((((P3.setCell P1.size _).setCell P1.size _).setCell P1.size _).setCell P1.size _) | with_reducible exact ((((P3.setCell P2.size _).setCell P2.size _).setCell P2.size _).setCell P2.size _)))
          (first | (go_at_call 11; have _t := tok1; refine (box_any x0 y0 x1 y1 _).mono ?_; rintro e u1 ⟨rfl, hv1⟩; clear tok1; (first | (have P1 : Below WA.heap.size WA u1 := P0.trans (hv1.mono P0.size); skip) | (have P1 : Below WA.heap.size WA u1 := P0a.trans (hv1.mono P0a.size); have zc0 : u1.cell? ⟨WA.heap.size, 0, none⟩ = some (.int .i64 0) := ((bcell hv1).1 _ 0 (by simp)).trans (by simp); have zf0 : u1.frozen? ⟨WA.heap.size, 0, none⟩ = false := ((bcell hv1).2 _ 0 (by simp)).trans (by simp); have zc1 : u1.cell? ⟨WA.heap.size, 1, none⟩ = some (.int .i64 0) := ((bcell hv1).1 _ 1 (by simp)).trans (by simp); have zf1 : u1.frozen? ⟨WA.heap.size, 1, none⟩ = false := ((bcell hv1).2 _ 1 (by simp)).trans (by simp); have zc2 : u1.cell? ⟨WA.heap.size, 2, none⟩ = some (.int .i64 0) := ((bcell hv1).1 _ 2 (by simp)).trans (by simp); have zf2 : u1.frozen? ⟨WA.heap.size, 2, none⟩ = false := ((bcell hv1).2 _ 2 (by simp)).trans (by simp); have zc3 : u1.cell? ⟨WA.heap.size, 3, none⟩ = some (.int .i64 0) := ((bcell hv1).1 _ 3 (by simp)).trans (by simp); have zf3 : u1.frozen? ⟨WA.heap.size, 3, none⟩ = false := ((bcell hv1).2 _ 3 (by simp)).trans (by simp)))) | (go_at_call 11; refine (box_any a0 b0 a1 b1 _).mono ?_; rintro e u2 ⟨rfl, hv2⟩; (first | (have P2 : Below WA.heap.size WA u2 := P1.trans (hv2.mono P1.size); (try (replace zf0 := frozenK zc0 zf0 hv2; replace zc0 := cell_kept zc0 hv2; replace zf1 := frozenK zc1 zf1 hv2; replace zc1 := cell_kept zc1 hv2; replace zf2 := frozenK zc2 zf2 hv2; replace zc2 := cell_kept zc2 hv2; replace zf3 := frozenK zc3 zf3 hv2; replace zc3 := cell_kept zc3 hv2))) | (have P2 : Below WA.heap.size WA u2 := (P1.alloc P1.size (.cells #[.int .i64 0, .int .i64 0, .int .i64 0, .int .i64 0] 25)).trans (hv2.mono (P1.alloc P1.size (.cells #[.int .i64 0, .int .i64 0, .int .i64 0, .int .i64 0] 25)).size); have zc0 : u2.cell? ⟨u1.heap.size, 0, none⟩ = some (.int .i64 0) := ((bcell hv2).1 _ 0 (by simp)).trans (by simp); have zf0 : u2.frozen? ⟨u1.heap.size, 0, none⟩ = false := ((bcell hv2).2 _ 0 (by simp)).trans (by simp); have zc1 : u2.cell? ⟨u1.heap.size, 1, none⟩ = some (.int .i64 0) := ((bcell hv2).1 _ 1 (by simp)).trans (by simp); have zf1 : u2.frozen? ⟨u1.heap.size, 1, none⟩ = false := ((bcell hv2).2 _ 1 (by simp)).trans (by simp); have zc2 : u2.cell? ⟨u1.heap.size, 2, none⟩ = some (.int .i64 0) := ((bcell hv2).1 _ 2 (by simp)).trans (by simp); have zf2 : u2.frozen? ⟨u1.heap.size, 2, none⟩ = false := ((bcell hv2).2 _ 2 (by simp)).trans (by simp); have zc3 : u2.cell? ⟨u1.heap.size, 3, none⟩ = some (.int .i64 0) := ((bcell hv2).1 _ 3 (by simp)).trans (by simp); have zf3 : u2.frozen? ⟨u1.heap.size, 3, none⟩ = false := ((bcell hv2).2 _ 3 (by simp)).trans (by simp)))) | (go_at_call 18; refine (common_none x0 y0 x1 y1 a0 b0 a1 b1 _ hE.out).mono ?_; rintro e u3 ⟨rfl, hv3⟩; (first | (have P3 : Below WA.heap.size WA u3 := P2.trans (hv3.mono P2.size); (try (replace zf0 := frozenK zc0 zf0 hv3; replace zc0 := cell_kept zc0 hv3; replace zf1 := frozenK zc1 zf1 hv3; replace zc1 := cell_kept zc1 hv3; replace zf2 := frozenK zc2 zf2 hv3; replace zc2 := cell_kept zc2 hv3; replace zf3 := frozenK zc3 zf3 hv3; replace zc3 := cell_kept zc3 hv3))) | (have P3 : Below WA.heap.size WA u3 := (P2.alloc P2.size (.cells #[.int .i64 0, .int .i64 0, .int .i64 0, .int .i64 0] 25)).trans (hv3.mono (P2.alloc P2.size (.cells #[.int .i64 0, .int .i64 0, .int .i64 0, .int .i64 0] 25)).size); have zc0 : u3.cell? ⟨u2.heap.size, 0, none⟩ = some (.int .i64 0) := ((bcell hv3).1 _ 0 (by simp)).trans (by simp); have zf0 : u3.frozen? ⟨u2.heap.size, 0, none⟩ = false := ((bcell hv3).2 _ 0 (by simp)).trans (by simp); have zc1 : u3.cell? ⟨u2.heap.size, 1, none⟩ = some (.int .i64 0) := ((bcell hv3).1 _ 1 (by simp)).trans (by simp); have zf1 : u3.frozen? ⟨u2.heap.size, 1, none⟩ = false := ((bcell hv3).2 _ 1 (by simp)).trans (by simp); have zc2 : u3.cell? ⟨u2.heap.size, 2, none⟩ = some (.int .i64 0) := ((bcell hv3).1 _ 2 (by simp)).trans (by simp); have zf2 : u3.frozen? ⟨u2.heap.size, 2, none⟩ = false := ((bcell hv3).2 _ 2 (by simp)).trans (by simp); have zc3 : u3.cell? ⟨u2.heap.size, 3, none⟩ = some (.int .i64 0) := ((bcell hv3).1 _ 3 (by simp)).trans (by simp); have zf3 : u3.frozen? ⟨u2.heap.size, 3, none⟩ = false := ((bcell hv3).2 _ 3 (by simp)).trans (by simp)))))
        all_goals
          go_wp2_with fail
          go_meet
          have z1 := P1.size
          have z2 := P2.size
          have z3 := P3.size
          have y2 := hv2.size
          have y3 := hv3.size
          first
            | exact ⟨u3.heap.size, rfl, rfl, P3.size, by simp, P3.alloc P3.size _, by simp, by simp, by simp, by simp⟩
            | exact ⟨WA.heap.size, rfl, rfl, Nat.le_refl _, lt_sets (World.block_lt_of_cell? _ _ zc0) (by simp [World.setCell]), ((((P3.setCell (Nat.le_refl _) _).setCell (Nat.le_refl _) _).setCell (Nat.le_refl _) _).setCell (Nat.le_refl _) _), by go_simp, by go_simp, by go_simp, by go_simp⟩
            | exact ⟨u1.heap.size, rfl, rfl, P1.size, lt_sets (World.block_lt_of_cell? _ _ zc0) (by simp [World.setCell]), ((((P3.setCell P1.size _).setCell P1.size _).setCell P1.size _).setCell P1.size _), by go_simp, by go_simp, by go_simp, by go_simp⟩
            | exact ⟨u2.heap.size, rfl, rfl, P2.size, lt_sets (World.block_lt_of_cell? _ _ zc0) (by simp [World.setCell]), ((((P3.setCell P2.size _).setCell P2.size _).setCell P2.size _).setCell P2.size _), by go_simp, by go_simp, by go_simp, by go_simp⟩
      case rest =>
        clear TOS P0 P0a
        obtain ⟨bc, rfl, rfl, hbc, hbl, hBm, cc0, cc1, cc2, cc3⟩ := hcut
        replace D0 := cell_kept D0 hBm
        replace D1 := cell_kept D1 hBm
        replace D2 := cell_kept D2 hBm
        replace D3 := cell_kept D3 hBm
        replace D4 := cell_kept D4 hBm
        replace D5 := cell_kept D5 hBm
        replace D6 := cell_kept D6 hBm
        replace D7 := cell_kept D7 hBm
        replace D8 := cell_kept D8 hBm
        replace D9 := cell_kept D9 hBm
        replace D10 := cell_kept D10 hBm
        replace D11 := cell_kept D11 hBm
        replace R0 := cell_kept R0 hBm
        replace R1 := cell_kept R1 hBm
        replace R2 := cell_kept R2 hBm
        replace R3 := cell_kept R3 hBm
        replace M0 := cell_kept M0 hBm
        replace M1 := cell_kept M1 hBm
        replace M2 := cell_kept M2 hBm
        replace M3 := cell_kept M3 hBm
        replace M4 := cell_kept M4 hBm
        replace M5 := cell_kept M5 hBm
        replace M6 := cell_kept M6 hBm
        replace M7 := cell_kept M7 hBm
        replace M8 := cell_kept M8 hBm
        replace M9 := cell_kept M9 hBm
        replace M10 := cell_kept M10 hBm
        replace M11 := cell_kept M11 hBm
        replace HR1 := Lib.hid (HR1.out.below hBm)
        replace HR2 := Lib.hid (HR2.out.below hBm)
        replace HR3 := Lib.hid (HR3.out.below hBm)
        replace HR4 := Lib.hid (HR4.out.below hBm)
        replace HO1 := Lib.hid (ownsRow_below HO1.out hBm)
        replace HO2 := Lib.hid (ownsRow_below HO2.out hBm)
        replace HO3 := Lib.hid (ownsRow_below HO3.out hBm)
        replace HO4 := Lib.hid (ownsRow_below HO4.out hBm)
        replace hB := hB.trans (hBm.mono hB.size)
        clear hBm hbc
        go_wp2_with fail
        refine (box_any 0 0 0 0 _).mono ?_
        rintro e w2 ⟨rfl, hb2⟩
        replace D0 := cell_kept D0 hb2
        replace D1 := cell_kept D1 hb2
        replace D2 := cell_kept D2 hb2
        replace D3 := cell_kept D3 hb2
        replace D4 := cell_kept D4 hb2
        replace D5 := cell_kept D5 hb2
        replace D6 := cell_kept D6 hb2
        replace D7 := cell_kept D7 hb2
        replace D8 := cell_kept D8 hb2
        replace D9 := cell_kept D9 hb2
        replace D10 := cell_kept D10 hb2
        replace D11 := cell_kept D11 hb2
        replace R0 := cell_kept R0 hb2
        replace R1 := cell_kept R1 hb2
        replace R2 := cell_kept R2 hb2
        replace R3 := cell_kept R3 hb2
        replace M0 := cell_kept M0 hb2
        replace M1 := cell_kept M1 hb2
        replace M2 := cell_kept M2 hb2
        replace M3 := cell_kept M3 hb2
        replace M4 := cell_kept M4 hb2
        replace M5 := cell_kept M5 hb2
        replace M6 := cell_kept M6 hb2
        replace M7 := cell_kept M7 hb2
        replace M8 := cell_kept M8 hb2
        replace M9 := cell_kept M9 hb2
        replace M10 := cell_kept M10 hb2
        replace M11 := cell_kept M11 hb2
        replace cc0 := cell_kept cc0 hb2
        replace cc1 := cell_kept cc1 hb2
        replace cc2 := cell_kept cc2 hb2
        replace cc3 := cell_kept cc3 hb2
        replace HR1 := Lib.hid (HR1.out.below hb2)
        replace HR2 := Lib.hid (HR2.out.below hb2)
        replace HR3 := Lib.hid (HR3.out.below hb2)
        replace HR4 := Lib.hid (HR4.out.below hb2)
        replace HO1 := Lib.hid (ownsRow_below HO1.out hb2)
        replace HO2 := Lib.hid (ownsRow_below HO2.out hb2)
        replace HO3 := Lib.hid (ownsRow_below HO3.out hb2)
        replace HO4 := Lib.hid (ownsRow_below HO4.out hb2)
        replace hB := hB.trans (hb2.mono hB.size)
        clear hb2
        go_wp2_with fail
        refine (empt_any 0 0 0 0 true (by simp [Empt]) _).mono ?_
        rintro e w3 ⟨rfl, hb3⟩
        replace D0 := cell_kept D0 hb3
        replace D1 := cell_kept D1 hb3
        replace D2 := cell_kept D2 hb3
        replace D3 := cell_kept D3 hb3
        replace D4 := cell_kept D4 hb3
        replace D5 := cell_kept D5 hb3
        replace D6 := cell_kept D6 hb3
        replace D7 := cell_kept D7 hb3
        replace D8 := cell_kept D8 hb3
        replace D9 := cell_kept D9 hb3
        replace D10 := cell_kept D10 hb3
        replace D11 := cell_kept D11 hb3
        replace R0 := cell_kept R0 hb3
        replace R1 := cell_kept R1 hb3
        replace R2 := cell_kept R2 hb3
        replace R3 := cell_kept R3 hb3
        replace M0 := cell_kept M0 hb3
        replace M1 := cell_kept M1 hb3
        replace M2 := cell_kept M2 hb3
        replace M3 := cell_kept M3 hb3
        replace M4 := cell_kept M4 hb3
        replace M5 := cell_kept M5 hb3
        replace M6 := cell_kept M6 hb3
        replace M7 := cell_kept M7 hb3
        replace M8 := cell_kept M8 hb3
        replace M9 := cell_kept M9 hb3
        replace M10 := cell_kept M10 hb3
        replace M11 := cell_kept M11 hb3
        replace cc0 := cell_kept cc0 hb3
        replace cc1 := cell_kept cc1 hb3
        replace cc2 := cell_kept cc2 hb3
        replace cc3 := cell_kept cc3 hb3
        replace HR1 := Lib.hid (HR1.out.below hb3)
        replace HR2 := Lib.hid (HR2.out.below hb3)
        replace HR3 := Lib.hid (HR3.out.below hb3)
        replace HR4 := Lib.hid (HR4.out.below hb3)
        replace HO1 := Lib.hid (ownsRow_below HO1.out hb3)
        replace HO2 := Lib.hid (ownsRow_below HO2.out hb3)
        replace HO3 := Lib.hid (ownsRow_below HO3.out hb3)
        replace HO4 := Lib.hid (ownsRow_below HO4.out hb3)
        replace hB := hB.trans (hb3.mono hB.size)
        clear hb3
        go_wp2
        go_ret
        exact ⟨by simp, hB⟩

set_option maxRecDepth 100000 in
set_option maxHeartbeats 4000000 in
theorem sub_out (x0 y0 x1 y1 rt ys cs at4 : Int) (A1 A2 A3 A4 : Option Addr) (c1 c2 c3 c4 : Nat) (z1 z2 z3 z4 : List Int) (a0 b0 a1 b1 x y : Int) (w : World) (hr1 : Hid (Reads w A1 z1)) (hl1 : Small z1) (hn1 : Hid (A1 = none → c1 = 0)) (hr2 : Hid (Reads w A2 z2)) (hl2 : Small z2) (hn2 : Hid (A2 = none → c2 = 0)) (hr3 : Hid (Reads w A3 z3)) (hl3 : Small z3) (hn3 : Hid (A3 = none → c3 = 0)) (hr4 : Hid (Reads w A4 z4)) (hl4 : Small z4) (hn4 : Hid (A4 = none → c4 = 0)) (hF : Hid (FairF x0 y0 x1 y1 ys cs at4)) (hN : Hid (Near4 a0 b0 a1 b1)) (hQ : Hid (0 ≤ rt ∧ rt ≤ 5)) (m1' : 0 ≤ x0) (m2' : 0 ≤ y0) (hA : Hid (AllT x0 y0 x1 y1 rt ys cs at4 z1.length z2.length z3.length z4.length)) (c0' d0' c1' d1' : Int) (m1 : Hid (max x0 a0 = c0')) (m2 : Hid (max y0 b0 = d0')) (m3 : Hid (min x1 a1 = c1')) (m4 : Hid (min y1 b1 = d1')) (n5 : c0' < c1') (n6 : d0' < d1') (hJ : Hid (¬ Insd c0' d0' c1' d1' x y)) :
    Calls Try.prog 4 #[.agg #[.int .i64 x0, .int .i64 y0, .int .i64 x1, .int .i64 y1, .int .i64 rt, .int .i64 ys, .int .i64 cs, .int .i64 at4, .slice A1 z1.length c1, .slice A2 z2.length c2, .slice A3 z3.length c3, .slice A4 z4.length c4], .agg #[.int .i64 a0, .int .i64 b0, .int .i64 a1, .int .i64 b1], .int .i64 x, .int .i64 y] w fun e w' => e = .returned (.bool true) ∧ Below w.heap.size w w' := by
  have hW : Hid (Within c0' d0' c1' d1' x0 y0 x1 y1) := by unfold Hid; rw [← m1.out, ← m2.out, ← m3.out, ← m4.out]; exact within_of _ _ _ _ _ _ _ _
  have N5 : Hid (max x0 a0 < min x1 a1) := by unfold Hid; rw [m1.out, m3.out]; exact n5
  have N6 : Hid (max y0 b0 < min y1 b1) := by unfold Hid; rw [m2.out, m4.out]; exact n6
  obtain ⟨nx1, nx2, nx3, nx4⟩ : x0 < x1 ∧ y0 < y1 ∧ a0 < a1 ∧ b0 < b1 := by have := N5.out; have := N6.out; omega
  have hI0 : Insd x0 y0 x1 y1 c0' d0' := hW.out.insd ⟨Int.le_refl _, n5, Int.le_refl _, n6⟩
  have hO0 : Hid (Okay x0 y0 x1 y1 rt ys cs at4 c0' d0') := ⟨hF.out, hI0, hQ.out.1, hQ.out.2, m1', m2'⟩
  have hT0 := hA.out _ _ hI0
  obtain ⟨k1, K1⟩ : ∃ k : Nat, (d0' - y0) * ys + (c0' - x0) = k := ⟨((d0' - y0) * ys + (c0' - x0)).toNat, by have := hT0.y0'; omega⟩
  obtain ⟨k2, K2⟩ : ∃ k : Nat, chr x0 y0 rt cs c0' d0' = k := ⟨(chr x0 y0 rt cs c0' d0').toNat, by have := hT0.c0'; omega⟩
  obtain ⟨k4, K4⟩ : ∃ k : Nat, (d0' - y0) * at4 + (c0' - x0) = k := ⟨((d0' - y0) * at4 + (c0' - x0)).toNat, by have := hT0.a0'; omega⟩
  have hk1 : Hid (k1 < z1.length) := by unfold Hid; have := hT0.y1'; omega
  have hk2 : Hid (k2 < z2.length) := by unfold Hid; have := hT0.c1'; omega
  have hk3 : Hid (k2 < z3.length) := by unfold Hid; have := hT0.c2'; omega
  have hk4 : Hid (k4 < z4.length) := by unfold Hid; have := hT0.a1'; omega
  have HL1 : Hid ((z1.drop k1).length = z1.length - k1) := List.length_drop
  have hl1' := drop_small hl1 k1
  have HL2 : Hid ((z2.drop k2).length = z2.length - k2) := List.length_drop
  have hl2' := drop_small hl2 k2
  have HL3 : Hid ((z3.drop k2).length = z3.length - k2) := List.length_drop
  have hl3' := drop_small hl3 k2
  have HL4 : Hid ((z4.drop k4).length = z4.length - k4) := List.length_drop
  have hl4' := drop_small hl4 k4
  replace K1 := Lib.hid K1
  replace K2 := Lib.hid K2
  replace K4 := Lib.hid K4
  clear hT0
  obtain ⟨s1, HY1⟩ : ∃ l, z1.drop k1 = l := ⟨_, rfl⟩
  rw [HY1] at HL1 hl1'
  replace HY1 := Lib.hid HY1
  obtain ⟨s2, HY2⟩ : ∃ l, z2.drop k2 = l := ⟨_, rfl⟩
  rw [HY2] at HL2 hl2'
  replace HY2 := Lib.hid HY2
  obtain ⟨s3, HY3⟩ : ∃ l, z3.drop k2 = l := ⟨_, rfl⟩
  rw [HY3] at HL3 hl3'
  replace HY3 := Lib.hid HY3
  obtain ⟨s4, HY4⟩ : ∃ l, z4.drop k4 = l := ⟨_, rfl⟩
  rw [HY4] at HL4 hl4'
  replace HY4 := Lib.hid HY4
  have hB : Below w.heap.size w ((w.alloc (.cells #[.int .i64 x0, .int .i64 y0, .int .i64 x1, .int .i64 y1, .int .i64 rt, .int .i64 ys, .int .i64 cs, .int .i64 at4, .slice A1 z1.length c1, .slice A2 z2.length c2, .slice A3 z3.length c3, .slice A4 z4.length c4] 30)).alloc (.cells #[.int .i64 a0, .int .i64 b0, .int .i64 a1, .int .i64 b1] 23)) := ((Below.refl _ _).alloc (Nat.le_refl _) _).alloc (by simp) _
  have D0 : ((w.alloc (.cells #[.int .i64 x0, .int .i64 y0, .int .i64 x1, .int .i64 y1, .int .i64 rt, .int .i64 ys, .int .i64 cs, .int .i64 at4, .slice A1 z1.length c1, .slice A2 z2.length c2, .slice A3 z3.length c3, .slice A4 z4.length c4] 30)).alloc (.cells #[.int .i64 a0, .int .i64 b0, .int .i64 a1, .int .i64 b1] 23)).cell? ⟨w.heap.size, 0, none⟩ = some (.int .i64 x0) := by first | (simp; done) | go_simp
  have D1 : ((w.alloc (.cells #[.int .i64 x0, .int .i64 y0, .int .i64 x1, .int .i64 y1, .int .i64 rt, .int .i64 ys, .int .i64 cs, .int .i64 at4, .slice A1 z1.length c1, .slice A2 z2.length c2, .slice A3 z3.length c3, .slice A4 z4.length c4] 30)).alloc (.cells #[.int .i64 a0, .int .i64 b0, .int .i64 a1, .int .i64 b1] 23)).cell? ⟨w.heap.size, 1, none⟩ = some (.int .i64 y0) := by first | (simp; done) | go_simp
  have D2 : ((w.alloc (.cells #[.int .i64 x0, .int .i64 y0, .int .i64 x1, .int .i64 y1, .int .i64 rt, .int .i64 ys, .int .i64 cs, .int .i64 at4, .slice A1 z1.length c1, .slice A2 z2.length c2, .slice A3 z3.length c3, .slice A4 z4.length c4] 30)).alloc (.cells #[.int .i64 a0, .int .i64 b0, .int .i64 a1, .int .i64 b1] 23)).cell? ⟨w.heap.size, 2, none⟩ = some (.int .i64 x1) := by first | (simp; done) | go_simp
  have D3 : ((w.alloc (.cells #[.int .i64 x0, .int .i64 y0, .int .i64 x1, .int .i64 y1, .int .i64 rt, .int .i64 ys, .int .i64 cs, .int .i64 at4, .slice A1 z1.length c1, .slice A2 z2.length c2, .slice A3 z3.length c3, .slice A4 z4.length c4] 30)).alloc (.cells #[.int .i64 a0, .int .i64 b0, .int .i64 a1, .int .i64 b1] 23)).cell? ⟨w.heap.size, 3, none⟩ = some (.int .i64 y1) := by first | (simp; done) | go_simp
  have D4 : ((w.alloc (.cells #[.int .i64 x0, .int .i64 y0, .int .i64 x1, .int .i64 y1, .int .i64 rt, .int .i64 ys, .int .i64 cs, .int .i64 at4, .slice A1 z1.length c1, .slice A2 z2.length c2, .slice A3 z3.length c3, .slice A4 z4.length c4] 30)).alloc (.cells #[.int .i64 a0, .int .i64 b0, .int .i64 a1, .int .i64 b1] 23)).cell? ⟨w.heap.size, 4, none⟩ = some (.int .i64 rt) := by first | (simp; done) | go_simp
  have D5 : ((w.alloc (.cells #[.int .i64 x0, .int .i64 y0, .int .i64 x1, .int .i64 y1, .int .i64 rt, .int .i64 ys, .int .i64 cs, .int .i64 at4, .slice A1 z1.length c1, .slice A2 z2.length c2, .slice A3 z3.length c3, .slice A4 z4.length c4] 30)).alloc (.cells #[.int .i64 a0, .int .i64 b0, .int .i64 a1, .int .i64 b1] 23)).cell? ⟨w.heap.size, 5, none⟩ = some (.int .i64 ys) := by first | (simp; done) | go_simp
  have D6 : ((w.alloc (.cells #[.int .i64 x0, .int .i64 y0, .int .i64 x1, .int .i64 y1, .int .i64 rt, .int .i64 ys, .int .i64 cs, .int .i64 at4, .slice A1 z1.length c1, .slice A2 z2.length c2, .slice A3 z3.length c3, .slice A4 z4.length c4] 30)).alloc (.cells #[.int .i64 a0, .int .i64 b0, .int .i64 a1, .int .i64 b1] 23)).cell? ⟨w.heap.size, 6, none⟩ = some (.int .i64 cs) := by first | (simp; done) | go_simp
  have D7 : ((w.alloc (.cells #[.int .i64 x0, .int .i64 y0, .int .i64 x1, .int .i64 y1, .int .i64 rt, .int .i64 ys, .int .i64 cs, .int .i64 at4, .slice A1 z1.length c1, .slice A2 z2.length c2, .slice A3 z3.length c3, .slice A4 z4.length c4] 30)).alloc (.cells #[.int .i64 a0, .int .i64 b0, .int .i64 a1, .int .i64 b1] 23)).cell? ⟨w.heap.size, 7, none⟩ = some (.int .i64 at4) := by first | (simp; done) | go_simp
  have D8 : ((w.alloc (.cells #[.int .i64 x0, .int .i64 y0, .int .i64 x1, .int .i64 y1, .int .i64 rt, .int .i64 ys, .int .i64 cs, .int .i64 at4, .slice A1 z1.length c1, .slice A2 z2.length c2, .slice A3 z3.length c3, .slice A4 z4.length c4] 30)).alloc (.cells #[.int .i64 a0, .int .i64 b0, .int .i64 a1, .int .i64 b1] 23)).cell? ⟨w.heap.size, 8, none⟩ = some (.slice A1 z1.length c1) := by first | (simp; done) | go_simp
  have D9 : ((w.alloc (.cells #[.int .i64 x0, .int .i64 y0, .int .i64 x1, .int .i64 y1, .int .i64 rt, .int .i64 ys, .int .i64 cs, .int .i64 at4, .slice A1 z1.length c1, .slice A2 z2.length c2, .slice A3 z3.length c3, .slice A4 z4.length c4] 30)).alloc (.cells #[.int .i64 a0, .int .i64 b0, .int .i64 a1, .int .i64 b1] 23)).cell? ⟨w.heap.size, 9, none⟩ = some (.slice A2 z2.length c2) := by first | (simp; done) | go_simp
  have D10 : ((w.alloc (.cells #[.int .i64 x0, .int .i64 y0, .int .i64 x1, .int .i64 y1, .int .i64 rt, .int .i64 ys, .int .i64 cs, .int .i64 at4, .slice A1 z1.length c1, .slice A2 z2.length c2, .slice A3 z3.length c3, .slice A4 z4.length c4] 30)).alloc (.cells #[.int .i64 a0, .int .i64 b0, .int .i64 a1, .int .i64 b1] 23)).cell? ⟨w.heap.size, 10, none⟩ = some (.slice A3 z3.length c3) := by first | (simp; done) | go_simp
  have D11 : ((w.alloc (.cells #[.int .i64 x0, .int .i64 y0, .int .i64 x1, .int .i64 y1, .int .i64 rt, .int .i64 ys, .int .i64 cs, .int .i64 at4, .slice A1 z1.length c1, .slice A2 z2.length c2, .slice A3 z3.length c3, .slice A4 z4.length c4] 30)).alloc (.cells #[.int .i64 a0, .int .i64 b0, .int .i64 a1, .int .i64 b1] 23)).cell? ⟨w.heap.size, 11, none⟩ = some (.slice A4 z4.length c4) := by first | (simp; done) | go_simp
  have R0 : ((w.alloc (.cells #[.int .i64 x0, .int .i64 y0, .int .i64 x1, .int .i64 y1, .int .i64 rt, .int .i64 ys, .int .i64 cs, .int .i64 at4, .slice A1 z1.length c1, .slice A2 z2.length c2, .slice A3 z3.length c3, .slice A4 z4.length c4] 30)).alloc (.cells #[.int .i64 a0, .int .i64 b0, .int .i64 a1, .int .i64 b1] 23)).cell? ⟨w.heap.size + 1, 0, none⟩ = some (.int .i64 a0) := by first | (simp; done) | go_simp
  have R1 : ((w.alloc (.cells #[.int .i64 x0, .int .i64 y0, .int .i64 x1, .int .i64 y1, .int .i64 rt, .int .i64 ys, .int .i64 cs, .int .i64 at4, .slice A1 z1.length c1, .slice A2 z2.length c2, .slice A3 z3.length c3, .slice A4 z4.length c4] 30)).alloc (.cells #[.int .i64 a0, .int .i64 b0, .int .i64 a1, .int .i64 b1] 23)).cell? ⟨w.heap.size + 1, 1, none⟩ = some (.int .i64 b0) := by first | (simp; done) | go_simp
  have R2 : ((w.alloc (.cells #[.int .i64 x0, .int .i64 y0, .int .i64 x1, .int .i64 y1, .int .i64 rt, .int .i64 ys, .int .i64 cs, .int .i64 at4, .slice A1 z1.length c1, .slice A2 z2.length c2, .slice A3 z3.length c3, .slice A4 z4.length c4] 30)).alloc (.cells #[.int .i64 a0, .int .i64 b0, .int .i64 a1, .int .i64 b1] 23)).cell? ⟨w.heap.size + 1, 2, none⟩ = some (.int .i64 a1) := by first | (simp; done) | go_simp
  have R3 : ((w.alloc (.cells #[.int .i64 x0, .int .i64 y0, .int .i64 x1, .int .i64 y1, .int .i64 rt, .int .i64 ys, .int .i64 cs, .int .i64 at4, .slice A1 z1.length c1, .slice A2 z2.length c2, .slice A3 z3.length c3, .slice A4 z4.length c4] 30)).alloc (.cells #[.int .i64 a0, .int .i64 b0, .int .i64 a1, .int .i64 b1] 23)).cell? ⟨w.heap.size + 1, 3, none⟩ = some (.int .i64 b1) := by first | (simp; done) | go_simp
  have HR1 := Lib.hid (hr1.out.below hB)
  have HR2 := Lib.hid (hr2.out.below hB)
  have HR3 := Lib.hid (hr3.out.below hB)
  have HR4 := Lib.hid (hr4.out.below hB)
  go_enter Try.func4, Try.ntmps4
  go_wp2_with fail
  generalize (w.alloc (.cells #[.int .i64 x0, .int .i64 y0, .int .i64 x1, .int .i64 y1, .int .i64 rt, .int .i64 ys, .int .i64 cs, .int .i64 at4, .slice A1 z1.length c1, .slice A2 z2.length c2, .slice A3 z3.length c3, .slice A4 z4.length c4] 30)).alloc (.cells #[.int .i64 a0, .int .i64 b0, .int .i64 a1, .int .i64 b1] 23) = W0 at *
  generalize w.heap.size + 1 = br at *
  go_wp2_with fail
  refine (fairF_any x0 y0 x1 y1 rt ys cs at4 A1 A2 A3 A4 c1 c2 c3 c4 z1 z2 z3 z4 true (by simp [hF.out]) _).mono ?_
  rintro e w1 ⟨rfl, hb1⟩
  replace D0 := cell_kept D0 hb1
  replace D1 := cell_kept D1 hb1
  replace D2 := cell_kept D2 hb1
  replace D3 := cell_kept D3 hb1
  replace D4 := cell_kept D4 hb1
  replace D5 := cell_kept D5 hb1
  replace D6 := cell_kept D6 hb1
  replace D7 := cell_kept D7 hb1
  replace D8 := cell_kept D8 hb1
  replace D9 := cell_kept D9 hb1
  replace D10 := cell_kept D10 hb1
  replace D11 := cell_kept D11 hb1
  replace R0 := cell_kept R0 hb1
  replace R1 := cell_kept R1 hb1
  replace R2 := cell_kept R2 hb1
  replace R3 := cell_kept R3 hb1
  replace HR1 := Lib.hid (HR1.out.below hb1)
  replace HR2 := Lib.hid (HR2.out.below hb1)
  replace HR3 := Lib.hid (HR3.out.below hb1)
  replace HR4 := Lib.hid (HR4.out.below hb1)
  replace hB := hB.trans (hb1.mono hB.size)
  clear hb1
  go_wp2_with fail
  refine (box_any a0 b0 a1 b1 _).mono ?_
  rintro e w2 ⟨rfl, hb2⟩
  replace D0 := cell_kept D0 hb2
  replace D1 := cell_kept D1 hb2
  replace D2 := cell_kept D2 hb2
  replace D3 := cell_kept D3 hb2
  replace D4 := cell_kept D4 hb2
  replace D5 := cell_kept D5 hb2
  replace D6 := cell_kept D6 hb2
  replace D7 := cell_kept D7 hb2
  replace D8 := cell_kept D8 hb2
  replace D9 := cell_kept D9 hb2
  replace D10 := cell_kept D10 hb2
  replace D11 := cell_kept D11 hb2
  replace R0 := cell_kept R0 hb2
  replace R1 := cell_kept R1 hb2
  replace R2 := cell_kept R2 hb2
  replace R3 := cell_kept R3 hb2
  replace HR1 := Lib.hid (HR1.out.below hb2)
  replace HR2 := Lib.hid (HR2.out.below hb2)
  replace HR3 := Lib.hid (HR3.out.below hb2)
  replace HR4 := Lib.hid (HR4.out.below hb2)
  replace hB := hB.trans (hb2.mono hB.size)
  clear hb2
  go_wp2_with fail
  refine (near4_any a0 b0 a1 b1 true (by simp [hN.out]) _).mono ?_
  rintro e w3 ⟨rfl, hb3⟩
  replace D0 := cell_kept D0 hb3
  replace D1 := cell_kept D1 hb3
  replace D2 := cell_kept D2 hb3
  replace D3 := cell_kept D3 hb3
  replace D4 := cell_kept D4 hb3
  replace D5 := cell_kept D5 hb3
  replace D6 := cell_kept D6 hb3
  replace D7 := cell_kept D7 hb3
  replace D8 := cell_kept D8 hb3
  replace D9 := cell_kept D9 hb3
  replace D10 := cell_kept D10 hb3
  replace D11 := cell_kept D11 hb3
  replace R0 := cell_kept R0 hb3
  replace R1 := cell_kept R1 hb3
  replace R2 := cell_kept R2 hb3
  replace R3 := cell_kept R3 hb3
  replace HR1 := Lib.hid (HR1.out.below hb3)
  replace HR2 := Lib.hid (HR2.out.below hb3)
  replace HR3 := Lib.hid (HR3.out.below hb3)
  replace HR4 := Lib.hid (HR4.out.below hb3)
  replace hB := hB.trans (hb3.mono hB.size)
  clear hb3
  go_wp2_with fail
  refine (ratio_any rt true (by have := hQ.out; simp only [this]; simp) _).mono ?_
  rintro e w' ⟨rfl, rfl⟩
  have HS : Hid (Below w.heap.size w w3 ∧ w3.cell? ⟨w.heap.size, 0, none⟩ = some (.int .i64 x0) ∧ w3.cell? ⟨w.heap.size, 1, none⟩ = some (.int .i64 y0) ∧ w3.cell? ⟨w.heap.size, 2, none⟩ = some (.int .i64 x1) ∧ w3.cell? ⟨w.heap.size, 3, none⟩ = some (.int .i64 y1) ∧ w3.cell? ⟨w.heap.size, 4, none⟩ = some (.int .i64 rt) ∧ w3.cell? ⟨w.heap.size, 5, none⟩ = some (.int .i64 ys) ∧ w3.cell? ⟨w.heap.size, 6, none⟩ = some (.int .i64 cs) ∧ w3.cell? ⟨w.heap.size, 7, none⟩ = some (.int .i64 at4) ∧ w3.cell? ⟨w.heap.size, 8, none⟩ = some (.slice A1 z1.length c1) ∧ w3.cell? ⟨w.heap.size, 9, none⟩ = some (.slice A2 z2.length c2) ∧ w3.cell? ⟨w.heap.size, 10, none⟩ = some (.slice A3 z3.length c3) ∧ w3.cell? ⟨w.heap.size, 11, none⟩ = some (.slice A4 z4.length c4) ∧ w3.cell? ⟨br, 0, none⟩ = some (.int .i64 a0) ∧ w3.cell? ⟨br, 1, none⟩ = some (.int .i64 b0) ∧ w3.cell? ⟨br, 2, none⟩ = some (.int .i64 a1) ∧ w3.cell? ⟨br, 3, none⟩ = some (.int .i64 b1)) := ⟨hB, D0, D1, D2, D3, D4, D5, D6, D7, D8, D9, D10, D11, R0, R1, R2, R3⟩
  obtain ⟨⟨⟨⟨f1, f2⟩, ⟨f3, f4⟩, ⟨f5, f6⟩, ⟨f7, f8⟩⟩, f9, f10, _⟩, _⟩ := id hF.out
  clear HR1 HR2 HR3 HR4
  go_wp2
  go_loopw [9] (fun yv wr => ∃ e : Int, yv = .int .i64 e ∧ y0 ≤ e ∧ e ≤ y1 ∧ Hid (Below w.heap.size w wr ∧ wr.cell? ⟨w.heap.size, 0, none⟩ = some (.int .i64 x0) ∧ wr.cell? ⟨w.heap.size, 1, none⟩ = some (.int .i64 y0) ∧ wr.cell? ⟨w.heap.size, 2, none⟩ = some (.int .i64 x1) ∧ wr.cell? ⟨w.heap.size, 3, none⟩ = some (.int .i64 y1) ∧ wr.cell? ⟨w.heap.size, 4, none⟩ = some (.int .i64 rt) ∧ wr.cell? ⟨w.heap.size, 5, none⟩ = some (.int .i64 ys) ∧ wr.cell? ⟨w.heap.size, 6, none⟩ = some (.int .i64 cs) ∧ wr.cell? ⟨w.heap.size, 7, none⟩ = some (.int .i64 at4) ∧ wr.cell? ⟨w.heap.size, 8, none⟩ = some (.slice A1 z1.length c1) ∧ wr.cell? ⟨w.heap.size, 9, none⟩ = some (.slice A2 z2.length c2) ∧ wr.cell? ⟨w.heap.size, 10, none⟩ = some (.slice A3 z3.length c3) ∧ wr.cell? ⟨w.heap.size, 11, none⟩ = some (.slice A4 z4.length c4) ∧ wr.cell? ⟨br, 0, none⟩ = some (.int .i64 a0) ∧ wr.cell? ⟨br, 1, none⟩ = some (.int .i64 b0) ∧ wr.cell? ⟨br, 2, none⟩ = some (.int .i64 a1) ∧ wr.cell? ⟨br, 3, none⟩ = some (.int .i64 b1))) (fun yv _ => (y1 - intOf yv).toNat)
  case atStart => exact ⟨y0, rfl, Int.le_refl _, by omega, HS⟩
  case round =>
    obtain ⟨e, rfl, e1, e2, KR⟩ := hrel
    clear HS D0 D1 D2 D3 D4 D5 D6 D7 D8 D9 D10 D11 R0 R1 R2 R3 hB
    obtain ⟨hB, D0, D1, D2, D3, D4, D5, D6, D7, D8, D9, D10, D11, R0, R1, R2, R3⟩ := id KR.out
    by_cases hlt : e < y1
    · go_wp2
      go_loopw [10] (fun xv wr => ∃ u : Int, xv = .int .i64 u ∧ x0 ≤ u ∧ u ≤ x1 ∧ Hid (Below w.heap.size w wr ∧ wr.cell? ⟨w.heap.size, 0, none⟩ = some (.int .i64 x0) ∧ wr.cell? ⟨w.heap.size, 1, none⟩ = some (.int .i64 y0) ∧ wr.cell? ⟨w.heap.size, 2, none⟩ = some (.int .i64 x1) ∧ wr.cell? ⟨w.heap.size, 3, none⟩ = some (.int .i64 y1) ∧ wr.cell? ⟨w.heap.size, 4, none⟩ = some (.int .i64 rt) ∧ wr.cell? ⟨w.heap.size, 5, none⟩ = some (.int .i64 ys) ∧ wr.cell? ⟨w.heap.size, 6, none⟩ = some (.int .i64 cs) ∧ wr.cell? ⟨w.heap.size, 7, none⟩ = some (.int .i64 at4) ∧ wr.cell? ⟨w.heap.size, 8, none⟩ = some (.slice A1 z1.length c1) ∧ wr.cell? ⟨w.heap.size, 9, none⟩ = some (.slice A2 z2.length c2) ∧ wr.cell? ⟨w.heap.size, 10, none⟩ = some (.slice A3 z3.length c3) ∧ wr.cell? ⟨w.heap.size, 11, none⟩ = some (.slice A4 z4.length c4) ∧ wr.cell? ⟨br, 0, none⟩ = some (.int .i64 a0) ∧ wr.cell? ⟨br, 1, none⟩ = some (.int .i64 b0) ∧ wr.cell? ⟨br, 2, none⟩ = some (.int .i64 a1) ∧ wr.cell? ⟨br, 3, none⟩ = some (.int .i64 b1))) (fun xv _ => (x1 - intOf xv).toNat)
      case atStart => exact ⟨x0, rfl, Int.le_refl _, by omega, KR⟩
      case round =>
        obtain ⟨u, rfl, u1, u2, KR'⟩ := hrel
        clear KR D0 D1 D2 D3 D4 D5 D6 D7 D8 D9 D10 D11 R0 R1 R2 R3 hB
        have KR := KR'
        clear KR'
        obtain ⟨hB, D0, D1, D2, D3, D4, D5, D6, D7, D8, D9, D10, D11, R0, R1, R2, R3⟩ := id KR.out
        by_cases hjl : u < x1
        · have hI : Insd x0 y0 x1 y1 u e := ⟨u1, hjl, e1, hlt⟩
          have hO : Hid (Okay x0 y0 x1 y1 rt ys cs at4 u e) := ⟨hF.out, hI, hQ.out.1, hQ.out.2, m1', m2'⟩
          have hT := Lib.hid (hA.out u e hI)
          go_wp2_with fail
          refine (there_any x0 y0 x1 y1 rt ys cs at4 A1 A2 A3 A4 c1 c2 c3 c4 z1 z2 z3 z4 u e _ hO true (by simp [hT.out])).mono ?_
          rintro e' w2 ⟨rfl, hb2⟩
          have KR2 : Hid (Below w.heap.size w w2 ∧ w2.cell? ⟨w.heap.size, 0, none⟩ = some (.int .i64 x0) ∧ w2.cell? ⟨w.heap.size, 1, none⟩ = some (.int .i64 y0) ∧ w2.cell? ⟨w.heap.size, 2, none⟩ = some (.int .i64 x1) ∧ w2.cell? ⟨w.heap.size, 3, none⟩ = some (.int .i64 y1) ∧ w2.cell? ⟨w.heap.size, 4, none⟩ = some (.int .i64 rt) ∧ w2.cell? ⟨w.heap.size, 5, none⟩ = some (.int .i64 ys) ∧ w2.cell? ⟨w.heap.size, 6, none⟩ = some (.int .i64 cs) ∧ w2.cell? ⟨w.heap.size, 7, none⟩ = some (.int .i64 at4) ∧ w2.cell? ⟨w.heap.size, 8, none⟩ = some (.slice A1 z1.length c1) ∧ w2.cell? ⟨w.heap.size, 9, none⟩ = some (.slice A2 z2.length c2) ∧ w2.cell? ⟨w.heap.size, 10, none⟩ = some (.slice A3 z3.length c3) ∧ w2.cell? ⟨w.heap.size, 11, none⟩ = some (.slice A4 z4.length c4) ∧ w2.cell? ⟨br, 0, none⟩ = some (.int .i64 a0) ∧ w2.cell? ⟨br, 1, none⟩ = some (.int .i64 b0) ∧ w2.cell? ⟨br, 2, none⟩ = some (.int .i64 a1) ∧ w2.cell? ⟨br, 3, none⟩ = some (.int .i64 b1)) := ⟨hB.trans (hb2.mono hB.size), cell_kept D0 hb2, cell_kept D1 hb2, cell_kept D2 hb2, cell_kept D3 hb2, cell_kept D4 hb2, cell_kept D5 hb2, cell_kept D6 hb2, cell_kept D7 hb2, cell_kept D8 hb2, cell_kept D9 hb2, cell_kept D10 hb2, cell_kept D11 hb2, cell_kept R0 hb2, cell_kept R1 hb2, cell_kept R2 hb2, cell_kept R3 hb2⟩
          clear KR D0 D1 D2 D3 D4 D5 D6 D7 D8 D9 D10 D11 R0 R1 R2 R3 hB hb2
          obtain ⟨hB, D0, D1, D2, D3, D4, D5, D6, D7, D8, D9, D10, D11, R0, R1, R2, R3⟩ := id KR2.out
          go_wp2
          go_roundw
          case rel => exact ⟨u + 1, by go_num, by omega, by omega, KR2⟩
          case measure => simp [intOf]; omega
        · go_wp2
          go_roundw
          case rel => exact ⟨e + 1, by go_num, by omega, by omega, KR⟩
          case measure => simp [intOf]; omega
    · have HR1 := Lib.hid (hr1.out.below hB)
      have HR2 := Lib.hid (hr2.out.below hB)
      have HR3 := Lib.hid (hr3.out.below hB)
      have HR4 := Lib.hid (hr4.out.below hB)
      clear KR
      go_wp2_with fail
      refine (implSub_some x0 y0 x1 y1 rt ys cs at4 A1 A2 A3 A4 c1 c2 c3 c4 z1 z2 z3 z4 a0 b0 a1 b1 _ HR1 hl1 hn1 HR2 hl2 hn2 HR3 hl3 hn3 HR4 hl4 hn4 c0' d0' c1' d1' k1 k2 k4 m1 m2 m3 m4 n5 n6 hO0 K1 K2 K4 hk1 hk2 hk3 hk4 s1 s2 s3 s4 HY1 HL1 hl1' HY2 HL2 hl2' HY3 HL3 hl3' HY4 HL4 hl4').mono ?_
      rintro e w1 ⟨E1, E2, E3, E4, f1', f2', f3', f4', rfl, ho1, ho2, ho3, ho4, hb1⟩
      have HO1 := Lib.hid ho1
      have HO2 := Lib.hid ho2
      have HO3 := Lib.hid ho3
      have HO4 := Lib.hid ho4
      clear ho1 ho2 ho3 ho4
      replace D0 := cell_kept D0 hb1
      replace D1 := cell_kept D1 hb1
      replace D2 := cell_kept D2 hb1
      replace D3 := cell_kept D3 hb1
      replace D4 := cell_kept D4 hb1
      replace D5 := cell_kept D5 hb1
      replace D6 := cell_kept D6 hb1
      replace D7 := cell_kept D7 hb1
      replace D8 := cell_kept D8 hb1
      replace D9 := cell_kept D9 hb1
      replace D10 := cell_kept D10 hb1
      replace D11 := cell_kept D11 hb1
      replace R0 := cell_kept R0 hb1
      replace R1 := cell_kept R1 hb1
      replace R2 := cell_kept R2 hb1
      replace R3 := cell_kept R3 hb1
      replace HR1 := Lib.hid (HR1.out.below hb1)
      replace HR2 := Lib.hid (HR2.out.below hb1)
      replace HR3 := Lib.hid (HR3.out.below hb1)
      replace HR4 := Lib.hid (HR4.out.below hb1)
      replace hB := hB.trans (hb1.mono hB.size)
      clear hb1
      have aw : Below w1.heap.size w1 (w1.alloc (.cells #[.int .i64 c0', .int .i64 d0', .int .i64 c1', .int .i64 d1', .int .i64 rt, .int .i64 ys, .int .i64 cs, .int .i64 at4, .slice E1 s1.length f1', .slice E2 s2.length f2', .slice E3 s3.length f3', .slice E4 s4.length f4'] 30)) := (Below.refl _ _).alloc (Nat.le_refl _) _
      replace D0 := cell_kept D0 aw
      replace D1 := cell_kept D1 aw
      replace D2 := cell_kept D2 aw
      replace D3 := cell_kept D3 aw
      replace D4 := cell_kept D4 aw
      replace D5 := cell_kept D5 aw
      replace D6 := cell_kept D6 aw
      replace D7 := cell_kept D7 aw
      replace D8 := cell_kept D8 aw
      replace D9 := cell_kept D9 aw
      replace D10 := cell_kept D10 aw
      replace D11 := cell_kept D11 aw
      replace R0 := cell_kept R0 aw
      replace R1 := cell_kept R1 aw
      replace R2 := cell_kept R2 aw
      replace R3 := cell_kept R3 aw
      replace HR1 := Lib.hid (HR1.out.below aw)
      replace HR2 := Lib.hid (HR2.out.below aw)
      replace HR3 := Lib.hid (HR3.out.below aw)
      replace HR4 := Lib.hid (HR4.out.below aw)
      replace HO1 := Lib.hid (ownsRow_below HO1.out aw)
      replace HO2 := Lib.hid (ownsRow_below HO2.out aw)
      replace HO3 := Lib.hid (ownsRow_below HO3.out aw)
      replace HO4 := Lib.hid (ownsRow_below HO4.out aw)
      replace hB := hB.trans (aw.mono hB.size)
      have M0 : (w1.alloc (.cells #[.int .i64 c0', .int .i64 d0', .int .i64 c1', .int .i64 d1', .int .i64 rt, .int .i64 ys, .int .i64 cs, .int .i64 at4, .slice E1 s1.length f1', .slice E2 s2.length f2', .slice E3 s3.length f3', .slice E4 s4.length f4'] 30)).cell? ⟨w1.heap.size, 0, none⟩ = some (.int .i64 c0') := by simp
      have M1 : (w1.alloc (.cells #[.int .i64 c0', .int .i64 d0', .int .i64 c1', .int .i64 d1', .int .i64 rt, .int .i64 ys, .int .i64 cs, .int .i64 at4, .slice E1 s1.length f1', .slice E2 s2.length f2', .slice E3 s3.length f3', .slice E4 s4.length f4'] 30)).cell? ⟨w1.heap.size, 1, none⟩ = some (.int .i64 d0') := by simp
      have M2 : (w1.alloc (.cells #[.int .i64 c0', .int .i64 d0', .int .i64 c1', .int .i64 d1', .int .i64 rt, .int .i64 ys, .int .i64 cs, .int .i64 at4, .slice E1 s1.length f1', .slice E2 s2.length f2', .slice E3 s3.length f3', .slice E4 s4.length f4'] 30)).cell? ⟨w1.heap.size, 2, none⟩ = some (.int .i64 c1') := by simp
      have M3 : (w1.alloc (.cells #[.int .i64 c0', .int .i64 d0', .int .i64 c1', .int .i64 d1', .int .i64 rt, .int .i64 ys, .int .i64 cs, .int .i64 at4, .slice E1 s1.length f1', .slice E2 s2.length f2', .slice E3 s3.length f3', .slice E4 s4.length f4'] 30)).cell? ⟨w1.heap.size, 3, none⟩ = some (.int .i64 d1') := by simp
      have M4 : (w1.alloc (.cells #[.int .i64 c0', .int .i64 d0', .int .i64 c1', .int .i64 d1', .int .i64 rt, .int .i64 ys, .int .i64 cs, .int .i64 at4, .slice E1 s1.length f1', .slice E2 s2.length f2', .slice E3 s3.length f3', .slice E4 s4.length f4'] 30)).cell? ⟨w1.heap.size, 4, none⟩ = some (.int .i64 rt) := by simp
      have M5 : (w1.alloc (.cells #[.int .i64 c0', .int .i64 d0', .int .i64 c1', .int .i64 d1', .int .i64 rt, .int .i64 ys, .int .i64 cs, .int .i64 at4, .slice E1 s1.length f1', .slice E2 s2.length f2', .slice E3 s3.length f3', .slice E4 s4.length f4'] 30)).cell? ⟨w1.heap.size, 5, none⟩ = some (.int .i64 ys) := by simp
      have M6 : (w1.alloc (.cells #[.int .i64 c0', .int .i64 d0', .int .i64 c1', .int .i64 d1', .int .i64 rt, .int .i64 ys, .int .i64 cs, .int .i64 at4, .slice E1 s1.length f1', .slice E2 s2.length f2', .slice E3 s3.length f3', .slice E4 s4.length f4'] 30)).cell? ⟨w1.heap.size, 6, none⟩ = some (.int .i64 cs) := by simp
      have M7 : (w1.alloc (.cells #[.int .i64 c0', .int .i64 d0', .int .i64 c1', .int .i64 d1', .int .i64 rt, .int .i64 ys, .int .i64 cs, .int .i64 at4, .slice E1 s1.length f1', .slice E2 s2.length f2', .slice E3 s3.length f3', .slice E4 s4.length f4'] 30)).cell? ⟨w1.heap.size, 7, none⟩ = some (.int .i64 at4) := by simp
      have M8 : (w1.alloc (.cells #[.int .i64 c0', .int .i64 d0', .int .i64 c1', .int .i64 d1', .int .i64 rt, .int .i64 ys, .int .i64 cs, .int .i64 at4, .slice E1 s1.length f1', .slice E2 s2.length f2', .slice E3 s3.length f3', .slice E4 s4.length f4'] 30)).cell? ⟨w1.heap.size, 8, none⟩ = some (.slice E1 s1.length f1') := by simp
      have M9 : (w1.alloc (.cells #[.int .i64 c0', .int .i64 d0', .int .i64 c1', .int .i64 d1', .int .i64 rt, .int .i64 ys, .int .i64 cs, .int .i64 at4, .slice E1 s1.length f1', .slice E2 s2.length f2', .slice E3 s3.length f3', .slice E4 s4.length f4'] 30)).cell? ⟨w1.heap.size, 9, none⟩ = some (.slice E2 s2.length f2') := by simp
      have M10 : (w1.alloc (.cells #[.int .i64 c0', .int .i64 d0', .int .i64 c1', .int .i64 d1', .int .i64 rt, .int .i64 ys, .int .i64 cs, .int .i64 at4, .slice E1 s1.length f1', .slice E2 s2.length f2', .slice E3 s3.length f3', .slice E4 s4.length f4'] 30)).cell? ⟨w1.heap.size, 10, none⟩ = some (.slice E3 s3.length f3') := by simp
      have M11 : (w1.alloc (.cells #[.int .i64 c0', .int .i64 d0', .int .i64 c1', .int .i64 d1', .int .i64 rt, .int .i64 ys, .int .i64 cs, .int .i64 at4, .slice E1 s1.length f1', .slice E2 s2.length f2', .slice E3 s3.length f3', .slice E4 s4.length f4'] 30)).cell? ⟨w1.heap.size, 11, none⟩ = some (.slice E4 s4.length f4') := by simp
      have hltWA : w1.heap.size < (w1.alloc (.cells #[.int .i64 c0', .int .i64 d0', .int .i64 c1', .int .i64 d1', .int .i64 rt, .int .i64 ys, .int .i64 cs, .int .i64 at4, .slice E1 s1.length f1', .slice E2 s2.length f2', .slice E3 s3.length f3', .slice E4 s4.length f4'] 30)).heap.size := by simp
      clear aw
      go_wp2_with fail
      generalize w1.alloc (.cells #[.int .i64 c0', .int .i64 d0', .int .i64 c1', .int .i64 d1', .int .i64 rt, .int .i64 ys, .int .i64 cs, .int .i64 at4, .slice E1 s1.length f1', .slice E2 s2.length f2', .slice E3 s3.length f3', .slice E4 s4.length f4'] 30) = WA at *
      generalize w1.heap.size = ba at *
      have tok1 : True := trivial
      go_upto_region 12 with fail
      have P0 : Below WA.heap.size WA WA.drew := (Below.refl _ _).drew
      have P0a : Below WA.heap.size WA (WA.alloc (.cells #[.int .i64 0, .int .i64 0, .int .i64 0, .int .i64 0] 25)).drew := ((Below.refl _ _).alloc (Nat.le_refl _) _).drew
      have toS : ∀ W' : World, Below WA.heap.size WA W' → (W'.cell? ⟨w.heap.size, 0, none⟩ = some (.int .i64 x0) ∧ W'.cell? ⟨w.heap.size, 1, none⟩ = some (.int .i64 y0) ∧ W'.cell? ⟨w.heap.size, 2, none⟩ = some (.int .i64 x1) ∧ W'.cell? ⟨w.heap.size, 3, none⟩ = some (.int .i64 y1) ∧ W'.cell? ⟨w.heap.size, 4, none⟩ = some (.int .i64 rt) ∧ W'.cell? ⟨w.heap.size, 5, none⟩ = some (.int .i64 ys) ∧ W'.cell? ⟨w.heap.size, 6, none⟩ = some (.int .i64 cs) ∧ W'.cell? ⟨w.heap.size, 7, none⟩ = some (.int .i64 at4) ∧ W'.cell? ⟨w.heap.size, 8, none⟩ = some (.slice A1 z1.length c1) ∧ W'.cell? ⟨w.heap.size, 9, none⟩ = some (.slice A2 z2.length c2) ∧ W'.cell? ⟨w.heap.size, 10, none⟩ = some (.slice A3 z3.length c3) ∧ W'.cell? ⟨w.heap.size, 11, none⟩ = some (.slice A4 z4.length c4) ∧ W'.cell? ⟨br, 0, none⟩ = some (.int .i64 a0) ∧ W'.cell? ⟨br, 1, none⟩ = some (.int .i64 b0) ∧ W'.cell? ⟨br, 2, none⟩ = some (.int .i64 a1) ∧ W'.cell? ⟨br, 3, none⟩ = some (.int .i64 b1)) := fun W' h => ⟨cell_kept D0 h, cell_kept D1 h, cell_kept D2 h, cell_kept D3 h, cell_kept D4 h, cell_kept D5 h, cell_kept D6 h, cell_kept D7 h, cell_kept D8 h, cell_kept D9 h, cell_kept D10 h, cell_kept D11 h, cell_kept R0 h, cell_kept R1 h, cell_kept R2 h, cell_kept R3 h⟩
      have TOS := Lib.hid toS
      clear toS
      go_cut [13, 14] (fun pp qq wx => ∃ bc : Nat, pp = .pointer (some ⟨bc, 0, none⟩) ∧ qq = .bool true ∧ WA.heap.size ≤ bc ∧ bc < wx.heap.size ∧ Below WA.heap.size WA wx ∧ wx.cell? ⟨bc, 0, none⟩ = some (.int .i64 c0') ∧ wx.cell? ⟨bc, 1, none⟩ = some (.int .i64 d0') ∧ wx.cell? ⟨bc, 2, none⟩ = some (.int .i64 c1') ∧ wx.cell? ⟨bc, 3, none⟩ = some (.int .i64 d1'))
      case first =>
        go_region_held3 (fun w' => w'.cell? ⟨w.heap.size, 0, none⟩ = some (.int .i64 x0) ∧ w'.cell? ⟨w.heap.size, 1, none⟩ = some (.int .i64 y0) ∧ w'.cell? ⟨w.heap.size, 2, none⟩ = some (.int .i64 x1) ∧ w'.cell? ⟨w.heap.size, 3, none⟩ = some (.int .i64 y1) ∧ w'.cell? ⟨w.heap.size, 4, none⟩ = some (.int .i64 rt) ∧ w'.cell? ⟨w.heap.size, 5, none⟩ = some (.int .i64 ys) ∧ w'.cell? ⟨w.heap.size, 6, none⟩ = some (.int .i64 cs) ∧ w'.cell? ⟨w.heap.size, 7, none⟩ = some (.int .i64 at4) ∧ w'.cell? ⟨w.heap.size, 8, none⟩ = some (.slice A1 z1.length c1) ∧ w'.cell? ⟨w.heap.size, 9, none⟩ = some (.slice A2 z2.length c2) ∧ w'.cell? ⟨w.heap.size, 10, none⟩ = some (.slice A3 z3.length c3) ∧ w'.cell? ⟨w.heap.size, 11, none⟩ = some (.slice A4 z4.length c4) ∧ w'.cell? ⟨br, 0, none⟩ = some (.int .i64 a0) ∧ w'.cell? ⟨br, 1, none⟩ = some (.int .i64 b0) ∧ w'.cell? ⟨br, 2, none⟩ = some (.int .i64 a1) ∧ w'.cell? ⟨br, 3, none⟩ = some (.int .i64 b1))
          ((refine TOS.out _ ?_; first | with_reducible exact P0 | with_reducible exact P0a | with_reducible exact P1 | with_reducible exact P1.alloc P1.size _ | with_reducible exact P2 | with_reducible exact P2.alloc P2.size _ | with_reducible exact P3 | with_reducible exact P3.alloc P3.size _ | with_reducible exact ((((P3.setCell (Nat.le_refl _) _).setCell (Nat.le_refl _) _).setCell (Nat.le_refl _) _).setCell (Nat.le_refl _) _) | with_reducible exact ((((P3.setCell P1.size _).setCell P1.size _).setCell P1.size _).setCell P1.size _) | with_reducible exact ((((P3.setCell P2.size _).setCell P2.size _).setCell P2.size _).setCell P2.size _)))
          (first | (go_at_call 11; have _t := tok1; refine (box_any x0 y0 x1 y1 _).mono ?_; rintro e u1 ⟨rfl, hv1⟩; clear tok1; (first | (have P1 : Below WA.heap.size WA u1 := P0.trans (hv1.mono P0.size); skip) | (have P1 : Below WA.heap.size WA u1 := P0a.trans (hv1.mono P0a.size); have zc0 : u1.cell? ⟨WA.heap.size, 0, none⟩ = some (.int .i64 0) := ((bcell hv1).1 _ 0 (by simp)).trans (by simp); have zf0 : u1.frozen? ⟨WA.heap.size, 0, none⟩ = false := ((bcell hv1).2 _ 0 (by simp)).trans (by simp); have zc1 : u1.cell? ⟨WA.heap.size, 1, none⟩ = some (.int .i64 0) := ((bcell hv1).1 _ 1 (by simp)).trans (by simp); have zf1 : u1.frozen? ⟨WA.heap.size, 1, none⟩ = false := ((bcell hv1).2 _ 1 (by simp)).trans (by simp); have zc2 : u1.cell? ⟨WA.heap.size, 2, none⟩ = some (.int .i64 0) := ((bcell hv1).1 _ 2 (by simp)).trans (by simp); have zf2 : u1.frozen? ⟨WA.heap.size, 2, none⟩ = false := ((bcell hv1).2 _ 2 (by simp)).trans (by simp); have zc3 : u1.cell? ⟨WA.heap.size, 3, none⟩ = some (.int .i64 0) := ((bcell hv1).1 _ 3 (by simp)).trans (by simp); have zf3 : u1.frozen? ⟨WA.heap.size, 3, none⟩ = false := ((bcell hv1).2 _ 3 (by simp)).trans (by simp)))) | (go_at_call 11; refine (box_any a0 b0 a1 b1 _).mono ?_; rintro e u2 ⟨rfl, hv2⟩; (first | (have P2 : Below WA.heap.size WA u2 := P1.trans (hv2.mono P1.size); (try (replace zf0 := frozenK zc0 zf0 hv2; replace zc0 := cell_kept zc0 hv2; replace zf1 := frozenK zc1 zf1 hv2; replace zc1 := cell_kept zc1 hv2; replace zf2 := frozenK zc2 zf2 hv2; replace zc2 := cell_kept zc2 hv2; replace zf3 := frozenK zc3 zf3 hv2; replace zc3 := cell_kept zc3 hv2))) | (have P2 : Below WA.heap.size WA u2 := (P1.alloc P1.size (.cells #[.int .i64 0, .int .i64 0, .int .i64 0, .int .i64 0] 25)).trans (hv2.mono (P1.alloc P1.size (.cells #[.int .i64 0, .int .i64 0, .int .i64 0, .int .i64 0] 25)).size); have zc0 : u2.cell? ⟨u1.heap.size, 0, none⟩ = some (.int .i64 0) := ((bcell hv2).1 _ 0 (by simp)).trans (by simp); have zf0 : u2.frozen? ⟨u1.heap.size, 0, none⟩ = false := ((bcell hv2).2 _ 0 (by simp)).trans (by simp); have zc1 : u2.cell? ⟨u1.heap.size, 1, none⟩ = some (.int .i64 0) := ((bcell hv2).1 _ 1 (by simp)).trans (by simp); have zf1 : u2.frozen? ⟨u1.heap.size, 1, none⟩ = false := ((bcell hv2).2 _ 1 (by simp)).trans (by simp); have zc2 : u2.cell? ⟨u1.heap.size, 2, none⟩ = some (.int .i64 0) := ((bcell hv2).1 _ 2 (by simp)).trans (by simp); have zf2 : u2.frozen? ⟨u1.heap.size, 2, none⟩ = false := ((bcell hv2).2 _ 2 (by simp)).trans (by simp); have zc3 : u2.cell? ⟨u1.heap.size, 3, none⟩ = some (.int .i64 0) := ((bcell hv2).1 _ 3 (by simp)).trans (by simp); have zf3 : u2.frozen? ⟨u1.heap.size, 3, none⟩ = false := ((bcell hv2).2 _ 3 (by simp)).trans (by simp)))) | (go_at_call 18; refine (common_some x0 y0 x1 y1 a0 b0 a1 b1 _ nx1 nx2 nx3 nx4 N5.out N6.out).mono ?_; rw [m1.out, m2.out, m3.out, m4.out]; rintro e u3 ⟨rfl, hv3⟩; (first | (have P3 : Below WA.heap.size WA u3 := P2.trans (hv3.mono P2.size); (try (replace zf0 := frozenK zc0 zf0 hv3; replace zc0 := cell_kept zc0 hv3; replace zf1 := frozenK zc1 zf1 hv3; replace zc1 := cell_kept zc1 hv3; replace zf2 := frozenK zc2 zf2 hv3; replace zc2 := cell_kept zc2 hv3; replace zf3 := frozenK zc3 zf3 hv3; replace zc3 := cell_kept zc3 hv3))) | (have P3 : Below WA.heap.size WA u3 := (P2.alloc P2.size (.cells #[.int .i64 0, .int .i64 0, .int .i64 0, .int .i64 0] 25)).trans (hv3.mono (P2.alloc P2.size (.cells #[.int .i64 0, .int .i64 0, .int .i64 0, .int .i64 0] 25)).size); have zc0 : u3.cell? ⟨u2.heap.size, 0, none⟩ = some (.int .i64 0) := ((bcell hv3).1 _ 0 (by simp)).trans (by simp); have zf0 : u3.frozen? ⟨u2.heap.size, 0, none⟩ = false := ((bcell hv3).2 _ 0 (by simp)).trans (by simp); have zc1 : u3.cell? ⟨u2.heap.size, 1, none⟩ = some (.int .i64 0) := ((bcell hv3).1 _ 1 (by simp)).trans (by simp); have zf1 : u3.frozen? ⟨u2.heap.size, 1, none⟩ = false := ((bcell hv3).2 _ 1 (by simp)).trans (by simp); have zc2 : u3.cell? ⟨u2.heap.size, 2, none⟩ = some (.int .i64 0) := ((bcell hv3).1 _ 2 (by simp)).trans (by simp); have zf2 : u3.frozen? ⟨u2.heap.size, 2, none⟩ = false := ((bcell hv3).2 _ 2 (by simp)).trans (by simp); have zc3 : u3.cell? ⟨u2.heap.size, 3, none⟩ = some (.int .i64 0) := ((bcell hv3).1 _ 3 (by simp)).trans (by simp); have zf3 : u3.frozen? ⟨u2.heap.size, 3, none⟩ = false := ((bcell hv3).2 _ 3 (by simp)).trans (by simp)))))
        all_goals
          go_wp2_with fail
          go_meet
          have z1 := P1.size
          have z2 := P2.size
          have z3 := P3.size
          have y2 := hv2.size
          have y3 := hv3.size
          first
            | exact ⟨u3.heap.size, rfl, rfl, P3.size, by simp, P3.alloc P3.size _, by simp, by simp, by simp, by simp⟩
            | exact ⟨WA.heap.size, rfl, rfl, Nat.le_refl _, lt_sets (World.block_lt_of_cell? _ _ zc0) (by simp [World.setCell]), ((((P3.setCell (Nat.le_refl _) _).setCell (Nat.le_refl _) _).setCell (Nat.le_refl _) _).setCell (Nat.le_refl _) _), by go_simp, by go_simp, by go_simp, by go_simp⟩
            | exact ⟨u1.heap.size, rfl, rfl, P1.size, lt_sets (World.block_lt_of_cell? _ _ zc0) (by simp [World.setCell]), ((((P3.setCell P1.size _).setCell P1.size _).setCell P1.size _).setCell P1.size _), by go_simp, by go_simp, by go_simp, by go_simp⟩
            | exact ⟨u2.heap.size, rfl, rfl, P2.size, lt_sets (World.block_lt_of_cell? _ _ zc0) (by simp [World.setCell]), ((((P3.setCell P2.size _).setCell P2.size _).setCell P2.size _).setCell P2.size _), by go_simp, by go_simp, by go_simp, by go_simp⟩
      case rest =>
        clear TOS P0 P0a
        obtain ⟨bc, rfl, rfl, hbc, hbl, hBm, cc0, cc1, cc2, cc3⟩ := hcut
        replace D0 := cell_kept D0 hBm
        replace D1 := cell_kept D1 hBm
        replace D2 := cell_kept D2 hBm
        replace D3 := cell_kept D3 hBm
        replace D4 := cell_kept D4 hBm
        replace D5 := cell_kept D5 hBm
        replace D6 := cell_kept D6 hBm
        replace D7 := cell_kept D7 hBm
        replace D8 := cell_kept D8 hBm
        replace D9 := cell_kept D9 hBm
        replace D10 := cell_kept D10 hBm
        replace D11 := cell_kept D11 hBm
        replace R0 := cell_kept R0 hBm
        replace R1 := cell_kept R1 hBm
        replace R2 := cell_kept R2 hBm
        replace R3 := cell_kept R3 hBm
        replace M0 := cell_kept M0 hBm
        replace M1 := cell_kept M1 hBm
        replace M2 := cell_kept M2 hBm
        replace M3 := cell_kept M3 hBm
        replace M4 := cell_kept M4 hBm
        replace M5 := cell_kept M5 hBm
        replace M6 := cell_kept M6 hBm
        replace M7 := cell_kept M7 hBm
        replace M8 := cell_kept M8 hBm
        replace M9 := cell_kept M9 hBm
        replace M10 := cell_kept M10 hBm
        replace M11 := cell_kept M11 hBm
        replace HR1 := Lib.hid (HR1.out.below hBm)
        replace HR2 := Lib.hid (HR2.out.below hBm)
        replace HR3 := Lib.hid (HR3.out.below hBm)
        replace HR4 := Lib.hid (HR4.out.below hBm)
        replace HO1 := Lib.hid (ownsRow_below HO1.out hBm)
        replace HO2 := Lib.hid (ownsRow_below HO2.out hBm)
        replace HO3 := Lib.hid (ownsRow_below HO3.out hBm)
        replace HO4 := Lib.hid (ownsRow_below HO4.out hBm)
        replace hB := hB.trans (hBm.mono hB.size)
        clear hBm hbc
        go_wp2_with fail
        have P0 : Below wc.heap.size wc wc.drew := (Below.refl _ _).drew
        have toS : ∀ W' : World, Below wc.heap.size wc W' → (W'.cell? ⟨w.heap.size, 0, none⟩ = some (.int .i64 x0) ∧ W'.cell? ⟨w.heap.size, 1, none⟩ = some (.int .i64 y0) ∧ W'.cell? ⟨w.heap.size, 2, none⟩ = some (.int .i64 x1) ∧ W'.cell? ⟨w.heap.size, 3, none⟩ = some (.int .i64 y1) ∧ W'.cell? ⟨w.heap.size, 4, none⟩ = some (.int .i64 rt) ∧ W'.cell? ⟨w.heap.size, 5, none⟩ = some (.int .i64 ys) ∧ W'.cell? ⟨w.heap.size, 6, none⟩ = some (.int .i64 cs) ∧ W'.cell? ⟨w.heap.size, 7, none⟩ = some (.int .i64 at4) ∧ W'.cell? ⟨w.heap.size, 8, none⟩ = some (.slice A1 z1.length c1) ∧ W'.cell? ⟨w.heap.size, 9, none⟩ = some (.slice A2 z2.length c2) ∧ W'.cell? ⟨w.heap.size, 10, none⟩ = some (.slice A3 z3.length c3) ∧ W'.cell? ⟨w.heap.size, 11, none⟩ = some (.slice A4 z4.length c4) ∧ W'.cell? ⟨br, 0, none⟩ = some (.int .i64 a0) ∧ W'.cell? ⟨br, 1, none⟩ = some (.int .i64 b0) ∧ W'.cell? ⟨br, 2, none⟩ = some (.int .i64 a1) ∧ W'.cell? ⟨br, 3, none⟩ = some (.int .i64 b1) ∧ W'.cell? ⟨ba, 0, none⟩ = some (.int .i64 c0') ∧ W'.cell? ⟨ba, 1, none⟩ = some (.int .i64 d0') ∧ W'.cell? ⟨ba, 2, none⟩ = some (.int .i64 c1') ∧ W'.cell? ⟨ba, 3, none⟩ = some (.int .i64 d1') ∧ W'.cell? ⟨ba, 4, none⟩ = some (.int .i64 rt) ∧ W'.cell? ⟨ba, 5, none⟩ = some (.int .i64 ys) ∧ W'.cell? ⟨ba, 6, none⟩ = some (.int .i64 cs) ∧ W'.cell? ⟨ba, 7, none⟩ = some (.int .i64 at4) ∧ W'.cell? ⟨ba, 8, none⟩ = some (.slice E1 s1.length f1') ∧ W'.cell? ⟨ba, 9, none⟩ = some (.slice E2 s2.length f2') ∧ W'.cell? ⟨ba, 10, none⟩ = some (.slice E3 s3.length f3') ∧ W'.cell? ⟨ba, 11, none⟩ = some (.slice E4 s4.length f4') ∧ W'.cell? ⟨bc, 0, none⟩ = some (.int .i64 c0') ∧ W'.cell? ⟨bc, 1, none⟩ = some (.int .i64 d0') ∧ W'.cell? ⟨bc, 2, none⟩ = some (.int .i64 c1') ∧ W'.cell? ⟨bc, 3, none⟩ = some (.int .i64 d1')) := fun W' h => ⟨cell_kept D0 h, cell_kept D1 h, cell_kept D2 h, cell_kept D3 h, cell_kept D4 h, cell_kept D5 h, cell_kept D6 h, cell_kept D7 h, cell_kept D8 h, cell_kept D9 h, cell_kept D10 h, cell_kept D11 h, cell_kept R0 h, cell_kept R1 h, cell_kept R2 h, cell_kept R3 h, cell_kept M0 h, cell_kept M1 h, cell_kept M2 h, cell_kept M3 h, cell_kept M4 h, cell_kept M5 h, cell_kept M6 h, cell_kept M7 h, cell_kept M8 h, cell_kept M9 h, cell_kept M10 h, cell_kept M11 h, cell_kept cc0 h, cell_kept cc1 h, cell_kept cc2 h, cell_kept cc3 h⟩
        have TOS := Lib.hid toS
        clear toS
        have hzN := hB.size
        refine wp_region_held_drew (S := fun w' => w'.cell? ⟨w.heap.size, 0, none⟩ = some (.int .i64 x0) ∧ w'.cell? ⟨w.heap.size, 1, none⟩ = some (.int .i64 y0) ∧ w'.cell? ⟨w.heap.size, 2, none⟩ = some (.int .i64 x1) ∧ w'.cell? ⟨w.heap.size, 3, none⟩ = some (.int .i64 y1) ∧ w'.cell? ⟨w.heap.size, 4, none⟩ = some (.int .i64 rt) ∧ w'.cell? ⟨w.heap.size, 5, none⟩ = some (.int .i64 ys) ∧ w'.cell? ⟨w.heap.size, 6, none⟩ = some (.int .i64 cs) ∧ w'.cell? ⟨w.heap.size, 7, none⟩ = some (.int .i64 at4) ∧ w'.cell? ⟨w.heap.size, 8, none⟩ = some (.slice A1 z1.length c1) ∧ w'.cell? ⟨w.heap.size, 9, none⟩ = some (.slice A2 z2.length c2) ∧ w'.cell? ⟨w.heap.size, 10, none⟩ = some (.slice A3 z3.length c3) ∧ w'.cell? ⟨w.heap.size, 11, none⟩ = some (.slice A4 z4.length c4) ∧ w'.cell? ⟨br, 0, none⟩ = some (.int .i64 a0) ∧ w'.cell? ⟨br, 1, none⟩ = some (.int .i64 b0) ∧ w'.cell? ⟨br, 2, none⟩ = some (.int .i64 a1) ∧ w'.cell? ⟨br, 3, none⟩ = some (.int .i64 b1) ∧ w'.cell? ⟨ba, 0, none⟩ = some (.int .i64 c0') ∧ w'.cell? ⟨ba, 1, none⟩ = some (.int .i64 d0') ∧ w'.cell? ⟨ba, 2, none⟩ = some (.int .i64 c1') ∧ w'.cell? ⟨ba, 3, none⟩ = some (.int .i64 d1') ∧ w'.cell? ⟨ba, 4, none⟩ = some (.int .i64 rt) ∧ w'.cell? ⟨ba, 5, none⟩ = some (.int .i64 ys) ∧ w'.cell? ⟨ba, 6, none⟩ = some (.int .i64 cs) ∧ w'.cell? ⟨ba, 7, none⟩ = some (.int .i64 at4) ∧ w'.cell? ⟨ba, 8, none⟩ = some (.slice E1 s1.length f1') ∧ w'.cell? ⟨ba, 9, none⟩ = some (.slice E2 s2.length f2') ∧ w'.cell? ⟨ba, 10, none⟩ = some (.slice E3 s3.length f3') ∧ w'.cell? ⟨ba, 11, none⟩ = some (.slice E4 s4.length f4') ∧ w'.cell? ⟨bc, 0, none⟩ = some (.int .i64 c0') ∧ w'.cell? ⟨bc, 1, none⟩ = some (.int .i64 d0') ∧ w'.cell? ⟨bc, 2, none⟩ = some (.int .i64 c1') ∧ w'.cell? ⟨bc, 3, none⟩ = some (.int .i64 d1')) (by kernel_rfl) ?_ (fun hHeld => ?_)
        · (first | (refine TOS.out _ ?_; first | with_reducible exact P1 | with_reducible exact P0))
        refine wpAnyH_take (i := 0) (oi := _) (v := ?v0) rfl (by kernel_rfl) (by kernel_rfl) (by kernel_rfl) (fun _ _ _ h => h) (Or.inl ⟨by rfl, ?hy0⟩) (by assumption) ?rest0
        case hy0 => (intro w hSw; (try dsimp only at hSw); go_simp <;> with_reducible rfl)
        try simp only [Act.put, List.getElem_toArray, List.getElem_cons_succ, List.getElem_cons_zero, List.setIfInBounds_toArray, List.set_cons_zero, List.set_cons_succ]
        refine wpAnyH_take (i := 1) (oi := _) (v := ?v1) rfl (by kernel_rfl) (by kernel_rfl) (by kernel_rfl) (fun _ _ _ h => h) (Or.inl ⟨by rfl, ?hy1⟩) (by assumption) ?rest1
        case hy1 => (intro w hSw; (try dsimp only at hSw); go_simp <;> with_reducible rfl)
        try simp only [Act.put, List.getElem_toArray, List.getElem_cons_succ, List.getElem_cons_zero, List.setIfInBounds_toArray, List.set_cons_zero, List.set_cons_succ]
        refine wpAnyH_take (i := 3) (oi := _) (v := ?v3) rfl (by kernel_rfl) (by kernel_rfl) (by kernel_rfl) (fun _ _ _ h => h) (Or.inl ⟨by rfl, ?hy3⟩) (by assumption) ?rest3
        case hy3 => (intro w hSw; (try dsimp only at hSw); go_simp <;> with_reducible rfl)
        try simp only [Act.put, List.getElem_toArray, List.getElem_cons_succ, List.getElem_cons_zero, List.setIfInBounds_toArray, List.set_cons_zero, List.set_cons_succ]
        refine wpAnyH_ready (rs := [2]) (by kernel_rfl) (by simp) ?_
        refine AllReadyH.cons (o := _) rfl (fun K hK => ?_) AllReadyH.nil
        go_simp
        (go_at_call 11; refine (box_any c0' d0' c1' d1' _).mono ?_; rintro e v1' ⟨rfl, hq1⟩; have P1 : Below wc.heap.size wc v1' := P0.trans (hq1.mono P0.size))
        refine hK.out _ _ ?_ (fun hHeld => ?_)
        · (first | (refine TOS.out _ ?_; first | with_reducible exact P1 | with_reducible exact P0))
        clear hK K
        try simp only [Act.put, List.getElem_toArray, List.getElem_cons_succ, List.getElem_cons_zero, List.setIfInBounds_toArray, List.set_cons_zero, List.set_cons_succ]
        refine wpAnyH_take (i := 4) (oi := _) (v := ?v4) rfl (by kernel_rfl) (by kernel_rfl) (by kernel_rfl) (fun _ _ _ h => h) (Or.inl ⟨by rfl, ?hy4⟩) (by assumption) ?rest4
        case hy4 => (intro w hSw; (try dsimp only at hSw); go_simp <;> with_reducible rfl)
        try simp only [Act.put, List.getElem_toArray, List.getElem_cons_succ, List.getElem_cons_zero, List.setIfInBounds_toArray, List.set_cons_zero, List.set_cons_succ]
        refine wpAnyH_take (i := 5) (oi := _) (v := ?v5) rfl (by kernel_rfl) (by kernel_rfl) (by kernel_rfl) (fun _ _ _ h => h) (Or.inl ⟨by rfl, ?hy5⟩) (by assumption) ?rest5
        case hy5 => (intro w hSw; (try dsimp only at hSw); go_simp <;> with_reducible rfl)
        try simp only [Act.put, List.getElem_toArray, List.getElem_cons_succ, List.getElem_cons_zero, List.setIfInBounds_toArray, List.set_cons_zero, List.set_cons_succ]
        refine wpAnyH_take (i := 6) (oi := _) (v := ?v6) rfl (by kernel_rfl) (by kernel_rfl) (by kernel_rfl) (fun _ _ _ h => h) (Or.inl ⟨by rfl, ?hy6⟩) (by assumption) ?rest6
        case hy6 => (intro w hSw; (try dsimp only at hSw); go_simp <;> with_reducible rfl)
        try simp only [Act.put, List.getElem_toArray, List.getElem_cons_succ, List.getElem_cons_zero, List.setIfInBounds_toArray, List.set_cons_zero, List.set_cons_succ]
        refine wpAnyH_take (i := 7) (oi := _) (v := ?v7) rfl (by kernel_rfl) (by kernel_rfl) (by kernel_rfl) (fun _ _ _ h => h) (Or.inl ⟨by rfl, ?hy7⟩) (by assumption) ?rest7
        case hy7 => (intro w hSw; (try dsimp only at hSw); go_simp <;> with_reducible rfl)
        try simp only [Act.put, List.getElem_toArray, List.getElem_cons_succ, List.getElem_cons_zero, List.setIfInBounds_toArray, List.set_cons_zero, List.set_cons_succ]
        refine wpAnyH_take (i := 8) (oi := _) (v := ?v8) rfl (by kernel_rfl) (by kernel_rfl) (by kernel_rfl) (fun _ _ _ h => h) (Or.inl ⟨by rfl, ?hy8⟩) (by assumption) ?rest8
        case hy8 => (intro w hSw; (try dsimp only at hSw); go_simp <;> with_reducible rfl)
        try simp only [Act.put, List.getElem_toArray, List.getElem_cons_succ, List.getElem_cons_zero, List.setIfInBounds_toArray, List.set_cons_zero, List.set_cons_succ]
        refine wpAnyH_take (i := 9) (oi := _) (v := ?v9) rfl (by kernel_rfl) (by kernel_rfl) (by kernel_rfl) (fun _ _ _ h => h) (Or.inl ⟨by rfl, ?hy9⟩) (by assumption) ?rest9
        case hy9 => (intro w hSw; (try dsimp only at hSw); go_simp <;> with_reducible rfl)
        try simp only [Act.put, List.getElem_toArray, List.getElem_cons_succ, List.getElem_cons_zero, List.setIfInBounds_toArray, List.set_cons_zero, List.set_cons_succ]
        refine wpAnyH_take (i := 10) (oi := _) (v := ?v10) rfl (by kernel_rfl) (by kernel_rfl) (by kernel_rfl) (fun _ _ _ h => h) (Or.inl ⟨by rfl, ?hy10⟩) (by assumption) ?rest10
        case hy10 => (intro w hSw; (try dsimp only at hSw); go_simp <;> with_reducible rfl)
        try simp only [Act.put, List.getElem_toArray, List.getElem_cons_succ, List.getElem_cons_zero, List.setIfInBounds_toArray, List.set_cons_zero, List.set_cons_succ]
        refine wpAnyH_take (i := 11) (oi := _) (v := ?v11) rfl (by kernel_rfl) (by kernel_rfl) (by kernel_rfl) (fun _ _ _ h => h) (Or.inl ⟨by rfl, ?hy11⟩) (by assumption) ?rest11
        case hy11 => (intro w hSw; (try dsimp only at hSw); go_simp <;> with_reducible rfl)
        try simp only [Act.put, List.getElem_toArray, List.getElem_cons_succ, List.getElem_cons_zero, List.setIfInBounds_toArray, List.set_cons_zero, List.set_cons_succ]
        refine wpAnyH_done (by kernel_rfl) ?_ _
        have hBn := P1
        clear TOS hHeld P0 hzN
        replace D0 := cell_kept D0 hBn
        replace D1 := cell_kept D1 hBn
        replace D2 := cell_kept D2 hBn
        replace D3 := cell_kept D3 hBn
        replace D4 := cell_kept D4 hBn
        replace D5 := cell_kept D5 hBn
        replace D6 := cell_kept D6 hBn
        replace D7 := cell_kept D7 hBn
        replace D8 := cell_kept D8 hBn
        replace D9 := cell_kept D9 hBn
        replace D10 := cell_kept D10 hBn
        replace D11 := cell_kept D11 hBn
        replace R0 := cell_kept R0 hBn
        replace R1 := cell_kept R1 hBn
        replace R2 := cell_kept R2 hBn
        replace R3 := cell_kept R3 hBn
        replace M0 := cell_kept M0 hBn
        replace M1 := cell_kept M1 hBn
        replace M2 := cell_kept M2 hBn
        replace M3 := cell_kept M3 hBn
        replace M4 := cell_kept M4 hBn
        replace M5 := cell_kept M5 hBn
        replace M6 := cell_kept M6 hBn
        replace M7 := cell_kept M7 hBn
        replace M8 := cell_kept M8 hBn
        replace M9 := cell_kept M9 hBn
        replace M10 := cell_kept M10 hBn
        replace M11 := cell_kept M11 hBn
        replace cc0 := cell_kept cc0 hBn
        replace cc1 := cell_kept cc1 hBn
        replace cc2 := cell_kept cc2 hBn
        replace cc3 := cell_kept cc3 hBn
        replace HR1 := Lib.hid (HR1.out.below hBn)
        replace HR2 := Lib.hid (HR2.out.below hBn)
        replace HR3 := Lib.hid (HR3.out.below hBn)
        replace HR4 := Lib.hid (HR4.out.below hBn)
        replace HO1 := Lib.hid (ownsRow_below HO1.out hBn)
        replace HO2 := Lib.hid (ownsRow_below HO2.out hBn)
        replace HO3 := Lib.hid (ownsRow_below HO3.out hBn)
        replace HO4 := Lib.hid (ownsRow_below HO4.out hBn)
        replace hB := hB.trans (hBn.mono hB.size)
        clear hBn hq1 P1
        go_wp2_with fail
        have P0 : Below v1'.heap.size v1' v1'.drew := (Below.refl _ _).drew
        have toS : ∀ W' : World, Below v1'.heap.size v1' W' → (W'.cell? ⟨w.heap.size, 0, none⟩ = some (.int .i64 x0) ∧ W'.cell? ⟨w.heap.size, 1, none⟩ = some (.int .i64 y0) ∧ W'.cell? ⟨w.heap.size, 2, none⟩ = some (.int .i64 x1) ∧ W'.cell? ⟨w.heap.size, 3, none⟩ = some (.int .i64 y1) ∧ W'.cell? ⟨w.heap.size, 4, none⟩ = some (.int .i64 rt) ∧ W'.cell? ⟨w.heap.size, 5, none⟩ = some (.int .i64 ys) ∧ W'.cell? ⟨w.heap.size, 6, none⟩ = some (.int .i64 cs) ∧ W'.cell? ⟨w.heap.size, 7, none⟩ = some (.int .i64 at4) ∧ W'.cell? ⟨w.heap.size, 8, none⟩ = some (.slice A1 z1.length c1) ∧ W'.cell? ⟨w.heap.size, 9, none⟩ = some (.slice A2 z2.length c2) ∧ W'.cell? ⟨w.heap.size, 10, none⟩ = some (.slice A3 z3.length c3) ∧ W'.cell? ⟨w.heap.size, 11, none⟩ = some (.slice A4 z4.length c4) ∧ W'.cell? ⟨br, 0, none⟩ = some (.int .i64 a0) ∧ W'.cell? ⟨br, 1, none⟩ = some (.int .i64 b0) ∧ W'.cell? ⟨br, 2, none⟩ = some (.int .i64 a1) ∧ W'.cell? ⟨br, 3, none⟩ = some (.int .i64 b1) ∧ W'.cell? ⟨ba, 0, none⟩ = some (.int .i64 c0') ∧ W'.cell? ⟨ba, 1, none⟩ = some (.int .i64 d0') ∧ W'.cell? ⟨ba, 2, none⟩ = some (.int .i64 c1') ∧ W'.cell? ⟨ba, 3, none⟩ = some (.int .i64 d1') ∧ W'.cell? ⟨ba, 4, none⟩ = some (.int .i64 rt) ∧ W'.cell? ⟨ba, 5, none⟩ = some (.int .i64 ys) ∧ W'.cell? ⟨ba, 6, none⟩ = some (.int .i64 cs) ∧ W'.cell? ⟨ba, 7, none⟩ = some (.int .i64 at4) ∧ W'.cell? ⟨ba, 8, none⟩ = some (.slice E1 s1.length f1') ∧ W'.cell? ⟨ba, 9, none⟩ = some (.slice E2 s2.length f2') ∧ W'.cell? ⟨ba, 10, none⟩ = some (.slice E3 s3.length f3') ∧ W'.cell? ⟨ba, 11, none⟩ = some (.slice E4 s4.length f4') ∧ W'.cell? ⟨bc, 0, none⟩ = some (.int .i64 c0') ∧ W'.cell? ⟨bc, 1, none⟩ = some (.int .i64 d0') ∧ W'.cell? ⟨bc, 2, none⟩ = some (.int .i64 c1') ∧ W'.cell? ⟨bc, 3, none⟩ = some (.int .i64 d1')) := fun W' h => ⟨cell_kept D0 h, cell_kept D1 h, cell_kept D2 h, cell_kept D3 h, cell_kept D4 h, cell_kept D5 h, cell_kept D6 h, cell_kept D7 h, cell_kept D8 h, cell_kept D9 h, cell_kept D10 h, cell_kept D11 h, cell_kept R0 h, cell_kept R1 h, cell_kept R2 h, cell_kept R3 h, cell_kept M0 h, cell_kept M1 h, cell_kept M2 h, cell_kept M3 h, cell_kept M4 h, cell_kept M5 h, cell_kept M6 h, cell_kept M7 h, cell_kept M8 h, cell_kept M9 h, cell_kept M10 h, cell_kept M11 h, cell_kept cc0 h, cell_kept cc1 h, cell_kept cc2 h, cell_kept cc3 h⟩
        have TOS := Lib.hid toS
        clear toS
        have hzN := hB.size
        refine wp_region_held_drew (S := fun w' => w'.cell? ⟨w.heap.size, 0, none⟩ = some (.int .i64 x0) ∧ w'.cell? ⟨w.heap.size, 1, none⟩ = some (.int .i64 y0) ∧ w'.cell? ⟨w.heap.size, 2, none⟩ = some (.int .i64 x1) ∧ w'.cell? ⟨w.heap.size, 3, none⟩ = some (.int .i64 y1) ∧ w'.cell? ⟨w.heap.size, 4, none⟩ = some (.int .i64 rt) ∧ w'.cell? ⟨w.heap.size, 5, none⟩ = some (.int .i64 ys) ∧ w'.cell? ⟨w.heap.size, 6, none⟩ = some (.int .i64 cs) ∧ w'.cell? ⟨w.heap.size, 7, none⟩ = some (.int .i64 at4) ∧ w'.cell? ⟨w.heap.size, 8, none⟩ = some (.slice A1 z1.length c1) ∧ w'.cell? ⟨w.heap.size, 9, none⟩ = some (.slice A2 z2.length c2) ∧ w'.cell? ⟨w.heap.size, 10, none⟩ = some (.slice A3 z3.length c3) ∧ w'.cell? ⟨w.heap.size, 11, none⟩ = some (.slice A4 z4.length c4) ∧ w'.cell? ⟨br, 0, none⟩ = some (.int .i64 a0) ∧ w'.cell? ⟨br, 1, none⟩ = some (.int .i64 b0) ∧ w'.cell? ⟨br, 2, none⟩ = some (.int .i64 a1) ∧ w'.cell? ⟨br, 3, none⟩ = some (.int .i64 b1) ∧ w'.cell? ⟨ba, 0, none⟩ = some (.int .i64 c0') ∧ w'.cell? ⟨ba, 1, none⟩ = some (.int .i64 d0') ∧ w'.cell? ⟨ba, 2, none⟩ = some (.int .i64 c1') ∧ w'.cell? ⟨ba, 3, none⟩ = some (.int .i64 d1') ∧ w'.cell? ⟨ba, 4, none⟩ = some (.int .i64 rt) ∧ w'.cell? ⟨ba, 5, none⟩ = some (.int .i64 ys) ∧ w'.cell? ⟨ba, 6, none⟩ = some (.int .i64 cs) ∧ w'.cell? ⟨ba, 7, none⟩ = some (.int .i64 at4) ∧ w'.cell? ⟨ba, 8, none⟩ = some (.slice E1 s1.length f1') ∧ w'.cell? ⟨ba, 9, none⟩ = some (.slice E2 s2.length f2') ∧ w'.cell? ⟨ba, 10, none⟩ = some (.slice E3 s3.length f3') ∧ w'.cell? ⟨ba, 11, none⟩ = some (.slice E4 s4.length f4') ∧ w'.cell? ⟨bc, 0, none⟩ = some (.int .i64 c0') ∧ w'.cell? ⟨bc, 1, none⟩ = some (.int .i64 d0') ∧ w'.cell? ⟨bc, 2, none⟩ = some (.int .i64 c1') ∧ w'.cell? ⟨bc, 3, none⟩ = some (.int .i64 d1')) (by kernel_rfl) ?_ (fun hHeld => ?_)
        · (first | (refine TOS.out _ ?_; first | with_reducible exact P1 | with_reducible exact P0))
        refine wpAnyH_take (i := 0) (oi := _) (v := ?vr2_0) rfl (by kernel_rfl) (by kernel_rfl) (by kernel_rfl) (fun _ _ _ h => h) (Or.inl ⟨by rfl, ?hyr2_0⟩) (by assumption) ?restr2_0
        case hyr2_0 => (intro w hSw; (try dsimp only at hSw); go_simp <;> with_reducible rfl)
        try simp only [Act.put, List.getElem_toArray, List.getElem_cons_succ, List.getElem_cons_zero, List.setIfInBounds_toArray, List.set_cons_zero, List.set_cons_succ]
        refine wpAnyH_take (i := 1) (oi := _) (v := ?vr2_1) rfl (by kernel_rfl) (by kernel_rfl) (by kernel_rfl) (fun _ _ _ h => h) (Or.inl ⟨by rfl, ?hyr2_1⟩) (by assumption) ?restr2_1
        case hyr2_1 => (intro w hSw; (try dsimp only at hSw); go_simp <;> with_reducible rfl)
        try simp only [Act.put, List.getElem_toArray, List.getElem_cons_succ, List.getElem_cons_zero, List.setIfInBounds_toArray, List.set_cons_zero, List.set_cons_succ]
        refine wpAnyH_take (i := 2) (oi := _) (v := ?vr2_2) rfl (by kernel_rfl) (by kernel_rfl) (by kernel_rfl) (fun _ _ _ h => h) (Or.inl ⟨by rfl, ?hyr2_2⟩) (by assumption) ?restr2_2
        case hyr2_2 => (intro w hSw; (try dsimp only at hSw); go_simp <;> with_reducible rfl)
        try simp only [Act.put, List.getElem_toArray, List.getElem_cons_succ, List.getElem_cons_zero, List.setIfInBounds_toArray, List.set_cons_zero, List.set_cons_succ]
        refine wpAnyH_ready (rs := [3]) (by kernel_rfl) (by simp) ?_
        refine AllReadyH.cons (o := _) rfl (fun K hK => ?_) AllReadyH.nil
        go_simp
        (go_at_call 20; refine (insd_any c0' d0' c1' d1' x y false (by simp [hJ.out]) _).mono ?_; rintro e q1' ⟨rfl, hq1⟩; have P1 : Below v1'.heap.size v1' q1' := P0.trans (hq1.mono P0.size))
        refine hK.out _ _ ?_ (fun hHeld => ?_)
        · (first | (refine TOS.out _ ?_; first | with_reducible exact P1 | with_reducible exact P0))
        clear hK K
        try simp only [Act.put, List.getElem_toArray, List.getElem_cons_succ, List.getElem_cons_zero, List.setIfInBounds_toArray, List.set_cons_zero, List.set_cons_succ]
        refine wpAnyH_take (i := 4) (oi := _) (v := ?vr2_4) rfl (by kernel_rfl) (by kernel_rfl) (by kernel_rfl) (fun _ _ _ h => h) (Or.inl ⟨by rfl, ?hyr2_4⟩) (by assumption) ?restr2_4
        case hyr2_4 => (intro w hSw; (try dsimp only at hSw); go_simp <;> with_reducible rfl)
        try simp only [Act.put, List.getElem_toArray, List.getElem_cons_succ, List.getElem_cons_zero, List.setIfInBounds_toArray, List.set_cons_zero, List.set_cons_succ]
        refine wpAnyH_take (i := 5) (oi := _) (v := ?vr2_5) rfl (by kernel_rfl) (by kernel_rfl) (by kernel_rfl) (fun _ _ _ h => h) (Or.inl ⟨by rfl, ?hyr2_5⟩) (by assumption) ?restr2_5
        case hyr2_5 => (intro w hSw; (try dsimp only at hSw); go_simp <;> with_reducible rfl)
        try simp only [Act.put, List.getElem_toArray, List.getElem_cons_succ, List.getElem_cons_zero, List.setIfInBounds_toArray, List.set_cons_zero, List.set_cons_succ]
        refine wpAnyH_take (i := 6) (oi := _) (v := undef) rfl (by kernel_rfl) (by kernel_rfl) (by kernel_rfl) (fun _ _ _ h => h) (Or.inr ⟨by rfl, rfl⟩) (by assumption) ?_
        try simp only [Act.put, List.getElem_toArray, List.getElem_cons_succ, List.getElem_cons_zero, List.setIfInBounds_toArray, List.set_cons_zero, List.set_cons_succ]
        refine wpAnyH_take (i := 7) (oi := _) (v := undef) rfl (by kernel_rfl) (by kernel_rfl) (by kernel_rfl) (fun _ _ _ h => h) (Or.inr ⟨by rfl, rfl⟩) (by assumption) ?_
        try simp only [Act.put, List.getElem_toArray, List.getElem_cons_succ, List.getElem_cons_zero, List.setIfInBounds_toArray, List.set_cons_zero, List.set_cons_succ]
        refine wpAnyH_take (i := 8) (oi := _) (v := undef) rfl (by kernel_rfl) (by kernel_rfl) (by kernel_rfl) (fun _ _ _ h => h) (Or.inr ⟨by rfl, rfl⟩) (by assumption) ?_
        try simp only [Act.put, List.getElem_toArray, List.getElem_cons_succ, List.getElem_cons_zero, List.setIfInBounds_toArray, List.set_cons_zero, List.set_cons_succ]
        refine wpAnyH_take (i := 10) (oi := _) (v := undef) rfl (by kernel_rfl) (by kernel_rfl) (by kernel_rfl) (fun _ _ _ h => h) (Or.inr ⟨by rfl, rfl⟩) (by assumption) ?_
        try simp only [Act.put, List.getElem_toArray, List.getElem_cons_succ, List.getElem_cons_zero, List.setIfInBounds_toArray, List.set_cons_zero, List.set_cons_succ]
        refine wpAnyH_take (i := 11) (oi := _) (v := undef) rfl (by kernel_rfl) (by kernel_rfl) (by kernel_rfl) (fun _ _ _ h => h) (Or.inr ⟨by rfl, rfl⟩) (by assumption) ?_
        try simp only [Act.put, List.getElem_toArray, List.getElem_cons_succ, List.getElem_cons_zero, List.setIfInBounds_toArray, List.set_cons_zero, List.set_cons_succ]
        refine wpAnyH_take (i := 12) (oi := _) (v := undef) rfl (by kernel_rfl) (by kernel_rfl) (by kernel_rfl) (fun _ _ _ h => h) (Or.inr ⟨by rfl, rfl⟩) (by assumption) ?_
        try simp only [Act.put, List.getElem_toArray, List.getElem_cons_succ, List.getElem_cons_zero, List.setIfInBounds_toArray, List.set_cons_zero, List.set_cons_succ]
        refine wpAnyH_ready (rs := [9]) (by kernel_rfl) (by simp) ?_
        refine AllReadyH.cons (o := _) rfl (fun K hK => ?_) AllReadyH.nil
        go_simp
        refine hK.out _ _ ?_ (fun hHeld => ?_)
        · (first | (refine TOS.out _ ?_; first | with_reducible exact P1 | with_reducible exact P0))
        clear hK K
        try simp only [Act.put, List.getElem_toArray, List.getElem_cons_succ, List.getElem_cons_zero, List.setIfInBounds_toArray, List.set_cons_zero, List.set_cons_succ]
        refine wpAnyH_ready (rs := [13]) (by kernel_rfl) (by simp) ?_
        refine AllReadyH.cons (o := _) rfl (fun K hK => ?_) AllReadyH.nil
        go_simp
        refine hK.out _ _ ?_ (fun hHeld => ?_)
        · (first | (refine TOS.out _ ?_; first | with_reducible exact P1 | with_reducible exact P0))
        clear hK K
        try simp only [Act.put, List.getElem_toArray, List.getElem_cons_succ, List.getElem_cons_zero, List.setIfInBounds_toArray, List.set_cons_zero, List.set_cons_succ]
        refine wpAnyH_take (i := 14) (oi := _) (v := undef) rfl (by kernel_rfl) (by kernel_rfl) (by kernel_rfl) (fun _ _ _ h => h) (Or.inr ⟨by rfl, rfl⟩) (by assumption) ?_
        try simp only [Act.put, List.getElem_toArray, List.getElem_cons_succ, List.getElem_cons_zero, List.setIfInBounds_toArray, List.set_cons_zero, List.set_cons_succ]
        refine wpAnyH_take (i := 15) (oi := _) (v := ?vr2_15) rfl (by kernel_rfl) (by kernel_rfl) (by kernel_rfl) (fun _ _ _ h => h) (Or.inl ⟨by rfl, ?hyr2_15⟩) (by assumption) ?restr2_15
        case hyr2_15 => (intro w hSw; (try dsimp only at hSw); go_simp <;> with_reducible rfl)
        try simp only [Act.put, List.getElem_toArray, List.getElem_cons_succ, List.getElem_cons_zero, List.setIfInBounds_toArray, List.set_cons_zero, List.set_cons_succ]
        refine wpAnyH_take (i := 16) (oi := _) (v := ?vr2_16) rfl (by kernel_rfl) (by kernel_rfl) (by kernel_rfl) (fun _ _ _ h => h) (Or.inl ⟨by rfl, ?hyr2_16⟩) (by assumption) ?restr2_16
        case hyr2_16 => (intro w hSw; (try dsimp only at hSw); go_simp <;> with_reducible rfl)
        try simp only [Act.put, List.getElem_toArray, List.getElem_cons_succ, List.getElem_cons_zero, List.setIfInBounds_toArray, List.set_cons_zero, List.set_cons_succ]
        refine wpAnyH_done (by kernel_rfl) ?_ _
        go_wp2
        go_ret
        exact ⟨by simp, hB.trans (P1.mono hzN)⟩

set_option maxRecDepth 100000 in
set_option maxHeartbeats 4000000 in
theorem sub_in (x0 y0 x1 y1 rt ys cs at4 : Int) (A1 A2 A3 A4 : Option Addr) (c1 c2 c3 c4 : Nat) (z1 z2 z3 z4 : List Int) (a0 b0 a1 b1 x y : Int) (w : World) (hr1 : Hid (Reads w A1 z1)) (hl1 : Small z1) (hn1 : Hid (A1 = none → c1 = 0)) (hr2 : Hid (Reads w A2 z2)) (hl2 : Small z2) (hn2 : Hid (A2 = none → c2 = 0)) (hr3 : Hid (Reads w A3 z3)) (hl3 : Small z3) (hn3 : Hid (A3 = none → c3 = 0)) (hr4 : Hid (Reads w A4 z4)) (hl4 : Small z4) (hn4 : Hid (A4 = none → c4 = 0)) (hF : Hid (FairF x0 y0 x1 y1 ys cs at4)) (hN : Hid (Near4 a0 b0 a1 b1)) (hQ : Hid (0 ≤ rt ∧ rt ≤ 5)) (m1' : 0 ≤ x0) (m2' : 0 ≤ y0) (hA : Hid (AllT x0 y0 x1 y1 rt ys cs at4 z1.length z2.length z3.length z4.length)) (c0' d0' c1' d1' : Int) (m1 : Hid (max x0 a0 = c0')) (m2 : Hid (max y0 b0 = d0')) (m3 : Hid (min x1 a1 = c1')) (m4 : Hid (min y1 b1 = d1')) (n5 : c0' < c1') (n6 : d0' < d1') (hJ : Hid (Insd c0' d0' c1' d1' x y)) :
    Calls Try.prog 4 #[.agg #[.int .i64 x0, .int .i64 y0, .int .i64 x1, .int .i64 y1, .int .i64 rt, .int .i64 ys, .int .i64 cs, .int .i64 at4, .slice A1 z1.length c1, .slice A2 z2.length c2, .slice A3 z3.length c3, .slice A4 z4.length c4], .agg #[.int .i64 a0, .int .i64 b0, .int .i64 a1, .int .i64 b1], .int .i64 x, .int .i64 y] w fun e w' => e = .returned (.bool true) ∧ Below w.heap.size w w' := by
  have hW : Hid (Within c0' d0' c1' d1' x0 y0 x1 y1) := by unfold Hid; rw [← m1.out, ← m2.out, ← m3.out, ← m4.out]; exact within_of _ _ _ _ _ _ _ _
  have N5 : Hid (max x0 a0 < min x1 a1) := by unfold Hid; rw [m1.out, m3.out]; exact n5
  have N6 : Hid (max y0 b0 < min y1 b1) := by unfold Hid; rw [m2.out, m4.out]; exact n6
  obtain ⟨nx1, nx2, nx3, nx4⟩ : x0 < x1 ∧ y0 < y1 ∧ a0 < a1 ∧ b0 < b1 := by have := N5.out; have := N6.out; omega
  have hI0 : Insd x0 y0 x1 y1 c0' d0' := hW.out.insd ⟨Int.le_refl _, n5, Int.le_refl _, n6⟩
  have hO0 : Hid (Okay x0 y0 x1 y1 rt ys cs at4 c0' d0') := ⟨hF.out, hI0, hQ.out.1, hQ.out.2, m1', m2'⟩
  have hT0 := hA.out _ _ hI0
  obtain ⟨k1, K1⟩ : ∃ k : Nat, (d0' - y0) * ys + (c0' - x0) = k := ⟨((d0' - y0) * ys + (c0' - x0)).toNat, by have := hT0.y0'; omega⟩
  obtain ⟨k2, K2⟩ : ∃ k : Nat, chr x0 y0 rt cs c0' d0' = k := ⟨(chr x0 y0 rt cs c0' d0').toNat, by have := hT0.c0'; omega⟩
  obtain ⟨k4, K4⟩ : ∃ k : Nat, (d0' - y0) * at4 + (c0' - x0) = k := ⟨((d0' - y0) * at4 + (c0' - x0)).toNat, by have := hT0.a0'; omega⟩
  have hk1 : Hid (k1 < z1.length) := by unfold Hid; have := hT0.y1'; omega
  have hk2 : Hid (k2 < z2.length) := by unfold Hid; have := hT0.c1'; omega
  have hk3 : Hid (k2 < z3.length) := by unfold Hid; have := hT0.c2'; omega
  have hk4 : Hid (k4 < z4.length) := by unfold Hid; have := hT0.a1'; omega
  have hI : Insd x0 y0 x1 y1 x y := hW.out.insd hJ.out
  have hO : Hid (Okay x0 y0 x1 y1 rt ys cs at4 x y) := ⟨hF.out, hI, hQ.out.1, hQ.out.2, m1', m2'⟩
  have hT : Hid (Ther x0 y0 rt ys cs at4 z1.length z2.length z3.length z4.length x y) := hA.out _ _ hI
  obtain ⟨hTm, q1, q2, q4⟩ := sub_there hA.out hW.out hJ.out K1 K2 K4
  have hOm : Hid (Okay c0' d0' c1' d1' rt ys cs at4 x y) := okay_sub hF.out hQ.out.1 hQ.out.2 m1' m2' hW.out hJ.out
  have V1 := getD_split z1 q1 hTm.y0'
  have V2 := getD_split z2 q2 hTm.c0'
  have V3 := getD_split z3 q2 hTm.c0'
  have V4 := getD_split z4 q4 hTm.a0'
  rw [← List.length_drop, ← List.length_drop, ← List.length_drop, ← List.length_drop] at hTm
  clear q1 q2 q4 hI
  have HL1 : Hid ((z1.drop k1).length = z1.length - k1) := List.length_drop
  have hl1' := drop_small hl1 k1
  have HL2 : Hid ((z2.drop k2).length = z2.length - k2) := List.length_drop
  have hl2' := drop_small hl2 k2
  have HL3 : Hid ((z3.drop k2).length = z3.length - k2) := List.length_drop
  have hl3' := drop_small hl3 k2
  have HL4 : Hid ((z4.drop k4).length = z4.length - k4) := List.length_drop
  have hl4' := drop_small hl4 k4
  replace K1 := Lib.hid K1
  replace K2 := Lib.hid K2
  replace K4 := Lib.hid K4
  clear hT0
  obtain ⟨s1, HY1⟩ : ∃ l, z1.drop k1 = l := ⟨_, rfl⟩
  rw [HY1] at HL1 hl1' hTm V1
  replace HY1 := Lib.hid HY1
  obtain ⟨s2, HY2⟩ : ∃ l, z2.drop k2 = l := ⟨_, rfl⟩
  rw [HY2] at HL2 hl2' hTm V2
  replace HY2 := Lib.hid HY2
  obtain ⟨s3, HY3⟩ : ∃ l, z3.drop k2 = l := ⟨_, rfl⟩
  rw [HY3] at HL3 hl3' hTm V3
  replace HY3 := Lib.hid HY3
  obtain ⟨s4, HY4⟩ : ∃ l, z4.drop k4 = l := ⟨_, rfl⟩
  rw [HY4] at HL4 hl4' hTm V4
  replace HY4 := Lib.hid HY4
  obtain ⟨v1, HV1⟩ : ∃ v, z1.getD ((y - y0) * ys + (x - x0)).toNat 0 = v := ⟨_, rfl⟩
  obtain ⟨v2, HV2⟩ : ∃ v, z2.getD (chr x0 y0 rt cs x y).toNat 0 = v := ⟨_, rfl⟩
  obtain ⟨v3, HV3⟩ : ∃ v, z3.getD (chr x0 y0 rt cs x y).toNat 0 = v := ⟨_, rfl⟩
  obtain ⟨v4, HV4⟩ : ∃ v, z4.getD ((y - y0) * at4 + (x - x0)).toNat 0 = v := ⟨_, rfl⟩
  rw [HV1] at V1
  rw [HV2] at V2
  rw [HV3] at V3
  rw [HV4] at V4
  have HX : Hid (_ ∧ _ ∧ _ ∧ _) := ⟨V1, V2, V3, V4⟩
  have HXX : Hid (_ ∧ _ ∧ _ ∧ _) := ⟨HV1, HV2, HV3, HV4⟩
  replace hTm := Lib.hid hTm
  clear V1 V2 V3 V4 HV1 HV2 HV3 HV4
  have hB : Below w.heap.size w ((w.alloc (.cells #[.int .i64 x0, .int .i64 y0, .int .i64 x1, .int .i64 y1, .int .i64 rt, .int .i64 ys, .int .i64 cs, .int .i64 at4, .slice A1 z1.length c1, .slice A2 z2.length c2, .slice A3 z3.length c3, .slice A4 z4.length c4] 30)).alloc (.cells #[.int .i64 a0, .int .i64 b0, .int .i64 a1, .int .i64 b1] 23)) := ((Below.refl _ _).alloc (Nat.le_refl _) _).alloc (by simp) _
  have D0 : ((w.alloc (.cells #[.int .i64 x0, .int .i64 y0, .int .i64 x1, .int .i64 y1, .int .i64 rt, .int .i64 ys, .int .i64 cs, .int .i64 at4, .slice A1 z1.length c1, .slice A2 z2.length c2, .slice A3 z3.length c3, .slice A4 z4.length c4] 30)).alloc (.cells #[.int .i64 a0, .int .i64 b0, .int .i64 a1, .int .i64 b1] 23)).cell? ⟨w.heap.size, 0, none⟩ = some (.int .i64 x0) := by first | (simp; done) | go_simp
  have D1 : ((w.alloc (.cells #[.int .i64 x0, .int .i64 y0, .int .i64 x1, .int .i64 y1, .int .i64 rt, .int .i64 ys, .int .i64 cs, .int .i64 at4, .slice A1 z1.length c1, .slice A2 z2.length c2, .slice A3 z3.length c3, .slice A4 z4.length c4] 30)).alloc (.cells #[.int .i64 a0, .int .i64 b0, .int .i64 a1, .int .i64 b1] 23)).cell? ⟨w.heap.size, 1, none⟩ = some (.int .i64 y0) := by first | (simp; done) | go_simp
  have D2 : ((w.alloc (.cells #[.int .i64 x0, .int .i64 y0, .int .i64 x1, .int .i64 y1, .int .i64 rt, .int .i64 ys, .int .i64 cs, .int .i64 at4, .slice A1 z1.length c1, .slice A2 z2.length c2, .slice A3 z3.length c3, .slice A4 z4.length c4] 30)).alloc (.cells #[.int .i64 a0, .int .i64 b0, .int .i64 a1, .int .i64 b1] 23)).cell? ⟨w.heap.size, 2, none⟩ = some (.int .i64 x1) := by first | (simp; done) | go_simp
  have D3 : ((w.alloc (.cells #[.int .i64 x0, .int .i64 y0, .int .i64 x1, .int .i64 y1, .int .i64 rt, .int .i64 ys, .int .i64 cs, .int .i64 at4, .slice A1 z1.length c1, .slice A2 z2.length c2, .slice A3 z3.length c3, .slice A4 z4.length c4] 30)).alloc (.cells #[.int .i64 a0, .int .i64 b0, .int .i64 a1, .int .i64 b1] 23)).cell? ⟨w.heap.size, 3, none⟩ = some (.int .i64 y1) := by first | (simp; done) | go_simp
  have D4 : ((w.alloc (.cells #[.int .i64 x0, .int .i64 y0, .int .i64 x1, .int .i64 y1, .int .i64 rt, .int .i64 ys, .int .i64 cs, .int .i64 at4, .slice A1 z1.length c1, .slice A2 z2.length c2, .slice A3 z3.length c3, .slice A4 z4.length c4] 30)).alloc (.cells #[.int .i64 a0, .int .i64 b0, .int .i64 a1, .int .i64 b1] 23)).cell? ⟨w.heap.size, 4, none⟩ = some (.int .i64 rt) := by first | (simp; done) | go_simp
  have D5 : ((w.alloc (.cells #[.int .i64 x0, .int .i64 y0, .int .i64 x1, .int .i64 y1, .int .i64 rt, .int .i64 ys, .int .i64 cs, .int .i64 at4, .slice A1 z1.length c1, .slice A2 z2.length c2, .slice A3 z3.length c3, .slice A4 z4.length c4] 30)).alloc (.cells #[.int .i64 a0, .int .i64 b0, .int .i64 a1, .int .i64 b1] 23)).cell? ⟨w.heap.size, 5, none⟩ = some (.int .i64 ys) := by first | (simp; done) | go_simp
  have D6 : ((w.alloc (.cells #[.int .i64 x0, .int .i64 y0, .int .i64 x1, .int .i64 y1, .int .i64 rt, .int .i64 ys, .int .i64 cs, .int .i64 at4, .slice A1 z1.length c1, .slice A2 z2.length c2, .slice A3 z3.length c3, .slice A4 z4.length c4] 30)).alloc (.cells #[.int .i64 a0, .int .i64 b0, .int .i64 a1, .int .i64 b1] 23)).cell? ⟨w.heap.size, 6, none⟩ = some (.int .i64 cs) := by first | (simp; done) | go_simp
  have D7 : ((w.alloc (.cells #[.int .i64 x0, .int .i64 y0, .int .i64 x1, .int .i64 y1, .int .i64 rt, .int .i64 ys, .int .i64 cs, .int .i64 at4, .slice A1 z1.length c1, .slice A2 z2.length c2, .slice A3 z3.length c3, .slice A4 z4.length c4] 30)).alloc (.cells #[.int .i64 a0, .int .i64 b0, .int .i64 a1, .int .i64 b1] 23)).cell? ⟨w.heap.size, 7, none⟩ = some (.int .i64 at4) := by first | (simp; done) | go_simp
  have D8 : ((w.alloc (.cells #[.int .i64 x0, .int .i64 y0, .int .i64 x1, .int .i64 y1, .int .i64 rt, .int .i64 ys, .int .i64 cs, .int .i64 at4, .slice A1 z1.length c1, .slice A2 z2.length c2, .slice A3 z3.length c3, .slice A4 z4.length c4] 30)).alloc (.cells #[.int .i64 a0, .int .i64 b0, .int .i64 a1, .int .i64 b1] 23)).cell? ⟨w.heap.size, 8, none⟩ = some (.slice A1 z1.length c1) := by first | (simp; done) | go_simp
  have D9 : ((w.alloc (.cells #[.int .i64 x0, .int .i64 y0, .int .i64 x1, .int .i64 y1, .int .i64 rt, .int .i64 ys, .int .i64 cs, .int .i64 at4, .slice A1 z1.length c1, .slice A2 z2.length c2, .slice A3 z3.length c3, .slice A4 z4.length c4] 30)).alloc (.cells #[.int .i64 a0, .int .i64 b0, .int .i64 a1, .int .i64 b1] 23)).cell? ⟨w.heap.size, 9, none⟩ = some (.slice A2 z2.length c2) := by first | (simp; done) | go_simp
  have D10 : ((w.alloc (.cells #[.int .i64 x0, .int .i64 y0, .int .i64 x1, .int .i64 y1, .int .i64 rt, .int .i64 ys, .int .i64 cs, .int .i64 at4, .slice A1 z1.length c1, .slice A2 z2.length c2, .slice A3 z3.length c3, .slice A4 z4.length c4] 30)).alloc (.cells #[.int .i64 a0, .int .i64 b0, .int .i64 a1, .int .i64 b1] 23)).cell? ⟨w.heap.size, 10, none⟩ = some (.slice A3 z3.length c3) := by first | (simp; done) | go_simp
  have D11 : ((w.alloc (.cells #[.int .i64 x0, .int .i64 y0, .int .i64 x1, .int .i64 y1, .int .i64 rt, .int .i64 ys, .int .i64 cs, .int .i64 at4, .slice A1 z1.length c1, .slice A2 z2.length c2, .slice A3 z3.length c3, .slice A4 z4.length c4] 30)).alloc (.cells #[.int .i64 a0, .int .i64 b0, .int .i64 a1, .int .i64 b1] 23)).cell? ⟨w.heap.size, 11, none⟩ = some (.slice A4 z4.length c4) := by first | (simp; done) | go_simp
  have R0 : ((w.alloc (.cells #[.int .i64 x0, .int .i64 y0, .int .i64 x1, .int .i64 y1, .int .i64 rt, .int .i64 ys, .int .i64 cs, .int .i64 at4, .slice A1 z1.length c1, .slice A2 z2.length c2, .slice A3 z3.length c3, .slice A4 z4.length c4] 30)).alloc (.cells #[.int .i64 a0, .int .i64 b0, .int .i64 a1, .int .i64 b1] 23)).cell? ⟨w.heap.size + 1, 0, none⟩ = some (.int .i64 a0) := by first | (simp; done) | go_simp
  have R1 : ((w.alloc (.cells #[.int .i64 x0, .int .i64 y0, .int .i64 x1, .int .i64 y1, .int .i64 rt, .int .i64 ys, .int .i64 cs, .int .i64 at4, .slice A1 z1.length c1, .slice A2 z2.length c2, .slice A3 z3.length c3, .slice A4 z4.length c4] 30)).alloc (.cells #[.int .i64 a0, .int .i64 b0, .int .i64 a1, .int .i64 b1] 23)).cell? ⟨w.heap.size + 1, 1, none⟩ = some (.int .i64 b0) := by first | (simp; done) | go_simp
  have R2 : ((w.alloc (.cells #[.int .i64 x0, .int .i64 y0, .int .i64 x1, .int .i64 y1, .int .i64 rt, .int .i64 ys, .int .i64 cs, .int .i64 at4, .slice A1 z1.length c1, .slice A2 z2.length c2, .slice A3 z3.length c3, .slice A4 z4.length c4] 30)).alloc (.cells #[.int .i64 a0, .int .i64 b0, .int .i64 a1, .int .i64 b1] 23)).cell? ⟨w.heap.size + 1, 2, none⟩ = some (.int .i64 a1) := by first | (simp; done) | go_simp
  have R3 : ((w.alloc (.cells #[.int .i64 x0, .int .i64 y0, .int .i64 x1, .int .i64 y1, .int .i64 rt, .int .i64 ys, .int .i64 cs, .int .i64 at4, .slice A1 z1.length c1, .slice A2 z2.length c2, .slice A3 z3.length c3, .slice A4 z4.length c4] 30)).alloc (.cells #[.int .i64 a0, .int .i64 b0, .int .i64 a1, .int .i64 b1] 23)).cell? ⟨w.heap.size + 1, 3, none⟩ = some (.int .i64 b1) := by first | (simp; done) | go_simp
  have HR1 := Lib.hid (hr1.out.below hB)
  have HR2 := Lib.hid (hr2.out.below hB)
  have HR3 := Lib.hid (hr3.out.below hB)
  have HR4 := Lib.hid (hr4.out.below hB)
  go_enter Try.func4, Try.ntmps4
  go_wp2_with fail
  generalize (w.alloc (.cells #[.int .i64 x0, .int .i64 y0, .int .i64 x1, .int .i64 y1, .int .i64 rt, .int .i64 ys, .int .i64 cs, .int .i64 at4, .slice A1 z1.length c1, .slice A2 z2.length c2, .slice A3 z3.length c3, .slice A4 z4.length c4] 30)).alloc (.cells #[.int .i64 a0, .int .i64 b0, .int .i64 a1, .int .i64 b1] 23) = W0 at *
  generalize w.heap.size + 1 = br at *
  go_wp2_with fail
  refine (fairF_any x0 y0 x1 y1 rt ys cs at4 A1 A2 A3 A4 c1 c2 c3 c4 z1 z2 z3 z4 true (by simp [hF.out]) _).mono ?_
  rintro e w1 ⟨rfl, hb1⟩
  replace D0 := cell_kept D0 hb1
  replace D1 := cell_kept D1 hb1
  replace D2 := cell_kept D2 hb1
  replace D3 := cell_kept D3 hb1
  replace D4 := cell_kept D4 hb1
  replace D5 := cell_kept D5 hb1
  replace D6 := cell_kept D6 hb1
  replace D7 := cell_kept D7 hb1
  replace D8 := cell_kept D8 hb1
  replace D9 := cell_kept D9 hb1
  replace D10 := cell_kept D10 hb1
  replace D11 := cell_kept D11 hb1
  replace R0 := cell_kept R0 hb1
  replace R1 := cell_kept R1 hb1
  replace R2 := cell_kept R2 hb1
  replace R3 := cell_kept R3 hb1
  replace HR1 := Lib.hid (HR1.out.below hb1)
  replace HR2 := Lib.hid (HR2.out.below hb1)
  replace HR3 := Lib.hid (HR3.out.below hb1)
  replace HR4 := Lib.hid (HR4.out.below hb1)
  replace hB := hB.trans (hb1.mono hB.size)
  clear hb1
  go_wp2_with fail
  refine (box_any a0 b0 a1 b1 _).mono ?_
  rintro e w2 ⟨rfl, hb2⟩
  replace D0 := cell_kept D0 hb2
  replace D1 := cell_kept D1 hb2
  replace D2 := cell_kept D2 hb2
  replace D3 := cell_kept D3 hb2
  replace D4 := cell_kept D4 hb2
  replace D5 := cell_kept D5 hb2
  replace D6 := cell_kept D6 hb2
  replace D7 := cell_kept D7 hb2
  replace D8 := cell_kept D8 hb2
  replace D9 := cell_kept D9 hb2
  replace D10 := cell_kept D10 hb2
  replace D11 := cell_kept D11 hb2
  replace R0 := cell_kept R0 hb2
  replace R1 := cell_kept R1 hb2
  replace R2 := cell_kept R2 hb2
  replace R3 := cell_kept R3 hb2
  replace HR1 := Lib.hid (HR1.out.below hb2)
  replace HR2 := Lib.hid (HR2.out.below hb2)
  replace HR3 := Lib.hid (HR3.out.below hb2)
  replace HR4 := Lib.hid (HR4.out.below hb2)
  replace hB := hB.trans (hb2.mono hB.size)
  clear hb2
  go_wp2_with fail
  refine (near4_any a0 b0 a1 b1 true (by simp [hN.out]) _).mono ?_
  rintro e w3 ⟨rfl, hb3⟩
  replace D0 := cell_kept D0 hb3
  replace D1 := cell_kept D1 hb3
  replace D2 := cell_kept D2 hb3
  replace D3 := cell_kept D3 hb3
  replace D4 := cell_kept D4 hb3
  replace D5 := cell_kept D5 hb3
  replace D6 := cell_kept D6 hb3
  replace D7 := cell_kept D7 hb3
  replace D8 := cell_kept D8 hb3
  replace D9 := cell_kept D9 hb3
  replace D10 := cell_kept D10 hb3
  replace D11 := cell_kept D11 hb3
  replace R0 := cell_kept R0 hb3
  replace R1 := cell_kept R1 hb3
  replace R2 := cell_kept R2 hb3
  replace R3 := cell_kept R3 hb3
  replace HR1 := Lib.hid (HR1.out.below hb3)
  replace HR2 := Lib.hid (HR2.out.below hb3)
  replace HR3 := Lib.hid (HR3.out.below hb3)
  replace HR4 := Lib.hid (HR4.out.below hb3)
  replace hB := hB.trans (hb3.mono hB.size)
  clear hb3
  go_wp2_with fail
  refine (ratio_any rt true (by have := hQ.out; simp only [this]; simp) _).mono ?_
  rintro e w' ⟨rfl, rfl⟩
  have HS : Hid (Below w.heap.size w w3 ∧ w3.cell? ⟨w.heap.size, 0, none⟩ = some (.int .i64 x0) ∧ w3.cell? ⟨w.heap.size, 1, none⟩ = some (.int .i64 y0) ∧ w3.cell? ⟨w.heap.size, 2, none⟩ = some (.int .i64 x1) ∧ w3.cell? ⟨w.heap.size, 3, none⟩ = some (.int .i64 y1) ∧ w3.cell? ⟨w.heap.size, 4, none⟩ = some (.int .i64 rt) ∧ w3.cell? ⟨w.heap.size, 5, none⟩ = some (.int .i64 ys) ∧ w3.cell? ⟨w.heap.size, 6, none⟩ = some (.int .i64 cs) ∧ w3.cell? ⟨w.heap.size, 7, none⟩ = some (.int .i64 at4) ∧ w3.cell? ⟨w.heap.size, 8, none⟩ = some (.slice A1 z1.length c1) ∧ w3.cell? ⟨w.heap.size, 9, none⟩ = some (.slice A2 z2.length c2) ∧ w3.cell? ⟨w.heap.size, 10, none⟩ = some (.slice A3 z3.length c3) ∧ w3.cell? ⟨w.heap.size, 11, none⟩ = some (.slice A4 z4.length c4) ∧ w3.cell? ⟨br, 0, none⟩ = some (.int .i64 a0) ∧ w3.cell? ⟨br, 1, none⟩ = some (.int .i64 b0) ∧ w3.cell? ⟨br, 2, none⟩ = some (.int .i64 a1) ∧ w3.cell? ⟨br, 3, none⟩ = some (.int .i64 b1)) := ⟨hB, D0, D1, D2, D3, D4, D5, D6, D7, D8, D9, D10, D11, R0, R1, R2, R3⟩
  obtain ⟨⟨⟨⟨f1, f2⟩, ⟨f3, f4⟩, ⟨f5, f6⟩, ⟨f7, f8⟩⟩, f9, f10, _⟩, _⟩ := id hF.out
  clear HR1 HR2 HR3 HR4
  go_wp2
  go_loopw [9] (fun yv wr => ∃ e : Int, yv = .int .i64 e ∧ y0 ≤ e ∧ e ≤ y1 ∧ Hid (Below w.heap.size w wr ∧ wr.cell? ⟨w.heap.size, 0, none⟩ = some (.int .i64 x0) ∧ wr.cell? ⟨w.heap.size, 1, none⟩ = some (.int .i64 y0) ∧ wr.cell? ⟨w.heap.size, 2, none⟩ = some (.int .i64 x1) ∧ wr.cell? ⟨w.heap.size, 3, none⟩ = some (.int .i64 y1) ∧ wr.cell? ⟨w.heap.size, 4, none⟩ = some (.int .i64 rt) ∧ wr.cell? ⟨w.heap.size, 5, none⟩ = some (.int .i64 ys) ∧ wr.cell? ⟨w.heap.size, 6, none⟩ = some (.int .i64 cs) ∧ wr.cell? ⟨w.heap.size, 7, none⟩ = some (.int .i64 at4) ∧ wr.cell? ⟨w.heap.size, 8, none⟩ = some (.slice A1 z1.length c1) ∧ wr.cell? ⟨w.heap.size, 9, none⟩ = some (.slice A2 z2.length c2) ∧ wr.cell? ⟨w.heap.size, 10, none⟩ = some (.slice A3 z3.length c3) ∧ wr.cell? ⟨w.heap.size, 11, none⟩ = some (.slice A4 z4.length c4) ∧ wr.cell? ⟨br, 0, none⟩ = some (.int .i64 a0) ∧ wr.cell? ⟨br, 1, none⟩ = some (.int .i64 b0) ∧ wr.cell? ⟨br, 2, none⟩ = some (.int .i64 a1) ∧ wr.cell? ⟨br, 3, none⟩ = some (.int .i64 b1))) (fun yv _ => (y1 - intOf yv).toNat)
  case atStart => exact ⟨y0, rfl, Int.le_refl _, by omega, HS⟩
  case round =>
    obtain ⟨e, rfl, e1, e2, KR⟩ := hrel
    clear HS D0 D1 D2 D3 D4 D5 D6 D7 D8 D9 D10 D11 R0 R1 R2 R3 hB
    obtain ⟨hB, D0, D1, D2, D3, D4, D5, D6, D7, D8, D9, D10, D11, R0, R1, R2, R3⟩ := id KR.out
    by_cases hlt : e < y1
    · go_wp2
      go_loopw [10] (fun xv wr => ∃ u : Int, xv = .int .i64 u ∧ x0 ≤ u ∧ u ≤ x1 ∧ Hid (Below w.heap.size w wr ∧ wr.cell? ⟨w.heap.size, 0, none⟩ = some (.int .i64 x0) ∧ wr.cell? ⟨w.heap.size, 1, none⟩ = some (.int .i64 y0) ∧ wr.cell? ⟨w.heap.size, 2, none⟩ = some (.int .i64 x1) ∧ wr.cell? ⟨w.heap.size, 3, none⟩ = some (.int .i64 y1) ∧ wr.cell? ⟨w.heap.size, 4, none⟩ = some (.int .i64 rt) ∧ wr.cell? ⟨w.heap.size, 5, none⟩ = some (.int .i64 ys) ∧ wr.cell? ⟨w.heap.size, 6, none⟩ = some (.int .i64 cs) ∧ wr.cell? ⟨w.heap.size, 7, none⟩ = some (.int .i64 at4) ∧ wr.cell? ⟨w.heap.size, 8, none⟩ = some (.slice A1 z1.length c1) ∧ wr.cell? ⟨w.heap.size, 9, none⟩ = some (.slice A2 z2.length c2) ∧ wr.cell? ⟨w.heap.size, 10, none⟩ = some (.slice A3 z3.length c3) ∧ wr.cell? ⟨w.heap.size, 11, none⟩ = some (.slice A4 z4.length c4) ∧ wr.cell? ⟨br, 0, none⟩ = some (.int .i64 a0) ∧ wr.cell? ⟨br, 1, none⟩ = some (.int .i64 b0) ∧ wr.cell? ⟨br, 2, none⟩ = some (.int .i64 a1) ∧ wr.cell? ⟨br, 3, none⟩ = some (.int .i64 b1))) (fun xv _ => (x1 - intOf xv).toNat)
      case atStart => exact ⟨x0, rfl, Int.le_refl _, by omega, KR⟩
      case round =>
        obtain ⟨u, rfl, u1, u2, KR'⟩ := hrel
        clear KR D0 D1 D2 D3 D4 D5 D6 D7 D8 D9 D10 D11 R0 R1 R2 R3 hB
        have KR := KR'
        clear KR'
        obtain ⟨hB, D0, D1, D2, D3, D4, D5, D6, D7, D8, D9, D10, D11, R0, R1, R2, R3⟩ := id KR.out
        by_cases hjl : u < x1
        · have hI : Insd x0 y0 x1 y1 u e := ⟨u1, hjl, e1, hlt⟩
          have hO : Hid (Okay x0 y0 x1 y1 rt ys cs at4 u e) := ⟨hF.out, hI, hQ.out.1, hQ.out.2, m1', m2'⟩
          have hT := Lib.hid (hA.out u e hI)
          go_wp2_with fail
          refine (there_any x0 y0 x1 y1 rt ys cs at4 A1 A2 A3 A4 c1 c2 c3 c4 z1 z2 z3 z4 u e _ hO true (by simp [hT.out])).mono ?_
          rintro e' w2 ⟨rfl, hb2⟩
          have KR2 : Hid (Below w.heap.size w w2 ∧ w2.cell? ⟨w.heap.size, 0, none⟩ = some (.int .i64 x0) ∧ w2.cell? ⟨w.heap.size, 1, none⟩ = some (.int .i64 y0) ∧ w2.cell? ⟨w.heap.size, 2, none⟩ = some (.int .i64 x1) ∧ w2.cell? ⟨w.heap.size, 3, none⟩ = some (.int .i64 y1) ∧ w2.cell? ⟨w.heap.size, 4, none⟩ = some (.int .i64 rt) ∧ w2.cell? ⟨w.heap.size, 5, none⟩ = some (.int .i64 ys) ∧ w2.cell? ⟨w.heap.size, 6, none⟩ = some (.int .i64 cs) ∧ w2.cell? ⟨w.heap.size, 7, none⟩ = some (.int .i64 at4) ∧ w2.cell? ⟨w.heap.size, 8, none⟩ = some (.slice A1 z1.length c1) ∧ w2.cell? ⟨w.heap.size, 9, none⟩ = some (.slice A2 z2.length c2) ∧ w2.cell? ⟨w.heap.size, 10, none⟩ = some (.slice A3 z3.length c3) ∧ w2.cell? ⟨w.heap.size, 11, none⟩ = some (.slice A4 z4.length c4) ∧ w2.cell? ⟨br, 0, none⟩ = some (.int .i64 a0) ∧ w2.cell? ⟨br, 1, none⟩ = some (.int .i64 b0) ∧ w2.cell? ⟨br, 2, none⟩ = some (.int .i64 a1) ∧ w2.cell? ⟨br, 3, none⟩ = some (.int .i64 b1)) := ⟨hB.trans (hb2.mono hB.size), cell_kept D0 hb2, cell_kept D1 hb2, cell_kept D2 hb2, cell_kept D3 hb2, cell_kept D4 hb2, cell_kept D5 hb2, cell_kept D6 hb2, cell_kept D7 hb2, cell_kept D8 hb2, cell_kept D9 hb2, cell_kept D10 hb2, cell_kept D11 hb2, cell_kept R0 hb2, cell_kept R1 hb2, cell_kept R2 hb2, cell_kept R3 hb2⟩
          clear KR D0 D1 D2 D3 D4 D5 D6 D7 D8 D9 D10 D11 R0 R1 R2 R3 hB hb2
          obtain ⟨hB, D0, D1, D2, D3, D4, D5, D6, D7, D8, D9, D10, D11, R0, R1, R2, R3⟩ := id KR2.out
          go_wp2
          go_roundw
          case rel => exact ⟨u + 1, by go_num, by omega, by omega, KR2⟩
          case measure => simp [intOf]; omega
        · go_wp2
          go_roundw
          case rel => exact ⟨e + 1, by go_num, by omega, by omega, KR⟩
          case measure => simp [intOf]; omega
    · have HR1 := Lib.hid (hr1.out.below hB)
      have HR2 := Lib.hid (hr2.out.below hB)
      have HR3 := Lib.hid (hr3.out.below hB)
      have HR4 := Lib.hid (hr4.out.below hB)
      clear KR
      go_wp2_with fail
      refine (implSub_some x0 y0 x1 y1 rt ys cs at4 A1 A2 A3 A4 c1 c2 c3 c4 z1 z2 z3 z4 a0 b0 a1 b1 _ HR1 hl1 hn1 HR2 hl2 hn2 HR3 hl3 hn3 HR4 hl4 hn4 c0' d0' c1' d1' k1 k2 k4 m1 m2 m3 m4 n5 n6 hO0 K1 K2 K4 hk1 hk2 hk3 hk4 s1 s2 s3 s4 HY1 HL1 hl1' HY2 HL2 hl2' HY3 HL3 hl3' HY4 HL4 hl4').mono ?_
      rintro e w1 ⟨E1, E2, E3, E4, f1', f2', f3', f4', rfl, ho1, ho2, ho3, ho4, hb1⟩
      have HO1 := Lib.hid ho1
      have HO2 := Lib.hid ho2
      have HO3 := Lib.hid ho3
      have HO4 := Lib.hid ho4
      clear ho1 ho2 ho3 ho4
      replace D0 := cell_kept D0 hb1
      replace D1 := cell_kept D1 hb1
      replace D2 := cell_kept D2 hb1
      replace D3 := cell_kept D3 hb1
      replace D4 := cell_kept D4 hb1
      replace D5 := cell_kept D5 hb1
      replace D6 := cell_kept D6 hb1
      replace D7 := cell_kept D7 hb1
      replace D8 := cell_kept D8 hb1
      replace D9 := cell_kept D9 hb1
      replace D10 := cell_kept D10 hb1
      replace D11 := cell_kept D11 hb1
      replace R0 := cell_kept R0 hb1
      replace R1 := cell_kept R1 hb1
      replace R2 := cell_kept R2 hb1
      replace R3 := cell_kept R3 hb1
      replace HR1 := Lib.hid (HR1.out.below hb1)
      replace HR2 := Lib.hid (HR2.out.below hb1)
      replace HR3 := Lib.hid (HR3.out.below hb1)
      replace HR4 := Lib.hid (HR4.out.below hb1)
      replace hB := hB.trans (hb1.mono hB.size)
      clear hb1
      have aw : Below w1.heap.size w1 (w1.alloc (.cells #[.int .i64 c0', .int .i64 d0', .int .i64 c1', .int .i64 d1', .int .i64 rt, .int .i64 ys, .int .i64 cs, .int .i64 at4, .slice E1 s1.length f1', .slice E2 s2.length f2', .slice E3 s3.length f3', .slice E4 s4.length f4'] 30)) := (Below.refl _ _).alloc (Nat.le_refl _) _
      replace D0 := cell_kept D0 aw
      replace D1 := cell_kept D1 aw
      replace D2 := cell_kept D2 aw
      replace D3 := cell_kept D3 aw
      replace D4 := cell_kept D4 aw
      replace D5 := cell_kept D5 aw
      replace D6 := cell_kept D6 aw
      replace D7 := cell_kept D7 aw
      replace D8 := cell_kept D8 aw
      replace D9 := cell_kept D9 aw
      replace D10 := cell_kept D10 aw
      replace D11 := cell_kept D11 aw
      replace R0 := cell_kept R0 aw
      replace R1 := cell_kept R1 aw
      replace R2 := cell_kept R2 aw
      replace R3 := cell_kept R3 aw
      replace HR1 := Lib.hid (HR1.out.below aw)
      replace HR2 := Lib.hid (HR2.out.below aw)
      replace HR3 := Lib.hid (HR3.out.below aw)
      replace HR4 := Lib.hid (HR4.out.below aw)
      replace HO1 := Lib.hid (ownsRow_below HO1.out aw)
      replace HO2 := Lib.hid (ownsRow_below HO2.out aw)
      replace HO3 := Lib.hid (ownsRow_below HO3.out aw)
      replace HO4 := Lib.hid (ownsRow_below HO4.out aw)
      replace hB := hB.trans (aw.mono hB.size)
      have M0 : (w1.alloc (.cells #[.int .i64 c0', .int .i64 d0', .int .i64 c1', .int .i64 d1', .int .i64 rt, .int .i64 ys, .int .i64 cs, .int .i64 at4, .slice E1 s1.length f1', .slice E2 s2.length f2', .slice E3 s3.length f3', .slice E4 s4.length f4'] 30)).cell? ⟨w1.heap.size, 0, none⟩ = some (.int .i64 c0') := by simp
      have M1 : (w1.alloc (.cells #[.int .i64 c0', .int .i64 d0', .int .i64 c1', .int .i64 d1', .int .i64 rt, .int .i64 ys, .int .i64 cs, .int .i64 at4, .slice E1 s1.length f1', .slice E2 s2.length f2', .slice E3 s3.length f3', .slice E4 s4.length f4'] 30)).cell? ⟨w1.heap.size, 1, none⟩ = some (.int .i64 d0') := by simp
      have M2 : (w1.alloc (.cells #[.int .i64 c0', .int .i64 d0', .int .i64 c1', .int .i64 d1', .int .i64 rt, .int .i64 ys, .int .i64 cs, .int .i64 at4, .slice E1 s1.length f1', .slice E2 s2.length f2', .slice E3 s3.length f3', .slice E4 s4.length f4'] 30)).cell? ⟨w1.heap.size, 2, none⟩ = some (.int .i64 c1') := by simp
      have M3 : (w1.alloc (.cells #[.int .i64 c0', .int .i64 d0', .int .i64 c1', .int .i64 d1', .int .i64 rt, .int .i64 ys, .int .i64 cs, .int .i64 at4, .slice E1 s1.length f1', .slice E2 s2.length f2', .slice E3 s3.length f3', .slice E4 s4.length f4'] 30)).cell? ⟨w1.heap.size, 3, none⟩ = some (.int .i64 d1') := by simp
      have M4 : (w1.alloc (.cells #[.int .i64 c0', .int .i64 d0', .int .i64 c1', .int .i64 d1', .int .i64 rt, .int .i64 ys, .int .i64 cs, .int .i64 at4, .slice E1 s1.length f1', .slice E2 s2.length f2', .slice E3 s3.length f3', .slice E4 s4.length f4'] 30)).cell? ⟨w1.heap.size, 4, none⟩ = some (.int .i64 rt) := by simp
      have M5 : (w1.alloc (.cells #[.int .i64 c0', .int .i64 d0', .int .i64 c1', .int .i64 d1', .int .i64 rt, .int .i64 ys, .int .i64 cs, .int .i64 at4, .slice E1 s1.length f1', .slice E2 s2.length f2', .slice E3 s3.length f3', .slice E4 s4.length f4'] 30)).cell? ⟨w1.heap.size, 5, none⟩ = some (.int .i64 ys) := by simp
      have M6 : (w1.alloc (.cells #[.int .i64 c0', .int .i64 d0', .int .i64 c1', .int .i64 d1', .int .i64 rt, .int .i64 ys, .int .i64 cs, .int .i64 at4, .slice E1 s1.length f1', .slice E2 s2.length f2', .slice E3 s3.length f3', .slice E4 s4.length f4'] 30)).cell? ⟨w1.heap.size, 6, none⟩ = some (.int .i64 cs) := by simp
      have M7 : (w1.alloc (.cells #[.int .i64 c0', .int .i64 d0', .int .i64 c1', .int .i64 d1', .int .i64 rt, .int .i64 ys, .int .i64 cs, .int .i64 at4, .slice E1 s1.length f1', .slice E2 s2.length f2', .slice E3 s3.length f3', .slice E4 s4.length f4'] 30)).cell? ⟨w1.heap.size, 7, none⟩ = some (.int .i64 at4) := by simp
      have M8 : (w1.alloc (.cells #[.int .i64 c0', .int .i64 d0', .int .i64 c1', .int .i64 d1', .int .i64 rt, .int .i64 ys, .int .i64 cs, .int .i64 at4, .slice E1 s1.length f1', .slice E2 s2.length f2', .slice E3 s3.length f3', .slice E4 s4.length f4'] 30)).cell? ⟨w1.heap.size, 8, none⟩ = some (.slice E1 s1.length f1') := by simp
      have M9 : (w1.alloc (.cells #[.int .i64 c0', .int .i64 d0', .int .i64 c1', .int .i64 d1', .int .i64 rt, .int .i64 ys, .int .i64 cs, .int .i64 at4, .slice E1 s1.length f1', .slice E2 s2.length f2', .slice E3 s3.length f3', .slice E4 s4.length f4'] 30)).cell? ⟨w1.heap.size, 9, none⟩ = some (.slice E2 s2.length f2') := by simp
      have M10 : (w1.alloc (.cells #[.int .i64 c0', .int .i64 d0', .int .i64 c1', .int .i64 d1', .int .i64 rt, .int .i64 ys, .int .i64 cs, .int .i64 at4, .slice E1 s1.length f1', .slice E2 s2.length f2', .slice E3 s3.length f3', .slice E4 s4.length f4'] 30)).cell? ⟨w1.heap.size, 10, none⟩ = some (.slice E3 s3.length f3') := by simp
      have M11 : (w1.alloc (.cells #[.int .i64 c0', .int .i64 d0', .int .i64 c1', .int .i64 d1', .int .i64 rt, .int .i64 ys, .int .i64 cs, .int .i64 at4, .slice E1 s1.length f1', .slice E2 s2.length f2', .slice E3 s3.length f3', .slice E4 s4.length f4'] 30)).cell? ⟨w1.heap.size, 11, none⟩ = some (.slice E4 s4.length f4') := by simp
      have hltWA : w1.heap.size < (w1.alloc (.cells #[.int .i64 c0', .int .i64 d0', .int .i64 c1', .int .i64 d1', .int .i64 rt, .int .i64 ys, .int .i64 cs, .int .i64 at4, .slice E1 s1.length f1', .slice E2 s2.length f2', .slice E3 s3.length f3', .slice E4 s4.length f4'] 30)).heap.size := by simp
      clear aw
      go_wp2_with fail
      generalize w1.alloc (.cells #[.int .i64 c0', .int .i64 d0', .int .i64 c1', .int .i64 d1', .int .i64 rt, .int .i64 ys, .int .i64 cs, .int .i64 at4, .slice E1 s1.length f1', .slice E2 s2.length f2', .slice E3 s3.length f3', .slice E4 s4.length f4'] 30) = WA at *
      generalize w1.heap.size = ba at *
      have tok1 : True := trivial
      go_upto_region 12 with fail
      have P0 : Below WA.heap.size WA WA.drew := (Below.refl _ _).drew
      have P0a : Below WA.heap.size WA (WA.alloc (.cells #[.int .i64 0, .int .i64 0, .int .i64 0, .int .i64 0] 25)).drew := ((Below.refl _ _).alloc (Nat.le_refl _) _).drew
      have toS : ∀ W' : World, Below WA.heap.size WA W' → (W'.cell? ⟨w.heap.size, 0, none⟩ = some (.int .i64 x0) ∧ W'.cell? ⟨w.heap.size, 1, none⟩ = some (.int .i64 y0) ∧ W'.cell? ⟨w.heap.size, 2, none⟩ = some (.int .i64 x1) ∧ W'.cell? ⟨w.heap.size, 3, none⟩ = some (.int .i64 y1) ∧ W'.cell? ⟨w.heap.size, 4, none⟩ = some (.int .i64 rt) ∧ W'.cell? ⟨w.heap.size, 5, none⟩ = some (.int .i64 ys) ∧ W'.cell? ⟨w.heap.size, 6, none⟩ = some (.int .i64 cs) ∧ W'.cell? ⟨w.heap.size, 7, none⟩ = some (.int .i64 at4) ∧ W'.cell? ⟨w.heap.size, 8, none⟩ = some (.slice A1 z1.length c1) ∧ W'.cell? ⟨w.heap.size, 9, none⟩ = some (.slice A2 z2.length c2) ∧ W'.cell? ⟨w.heap.size, 10, none⟩ = some (.slice A3 z3.length c3) ∧ W'.cell? ⟨w.heap.size, 11, none⟩ = some (.slice A4 z4.length c4) ∧ W'.cell? ⟨br, 0, none⟩ = some (.int .i64 a0) ∧ W'.cell? ⟨br, 1, none⟩ = some (.int .i64 b0) ∧ W'.cell? ⟨br, 2, none⟩ = some (.int .i64 a1) ∧ W'.cell? ⟨br, 3, none⟩ = some (.int .i64 b1)) := fun W' h => ⟨cell_kept D0 h, cell_kept D1 h, cell_kept D2 h, cell_kept D3 h, cell_kept D4 h, cell_kept D5 h, cell_kept D6 h, cell_kept D7 h, cell_kept D8 h, cell_kept D9 h, cell_kept D10 h, cell_kept D11 h, cell_kept R0 h, cell_kept R1 h, cell_kept R2 h, cell_kept R3 h⟩
      have TOS := Lib.hid toS
      clear toS
      go_cut [13, 14] (fun pp qq wx => ∃ bc : Nat, pp = .pointer (some ⟨bc, 0, none⟩) ∧ qq = .bool true ∧ WA.heap.size ≤ bc ∧ bc < wx.heap.size ∧ Below WA.heap.size WA wx ∧ wx.cell? ⟨bc, 0, none⟩ = some (.int .i64 c0') ∧ wx.cell? ⟨bc, 1, none⟩ = some (.int .i64 d0') ∧ wx.cell? ⟨bc, 2, none⟩ = some (.int .i64 c1') ∧ wx.cell? ⟨bc, 3, none⟩ = some (.int .i64 d1'))
      case first =>
        go_region_held3 (fun w' => w'.cell? ⟨w.heap.size, 0, none⟩ = some (.int .i64 x0) ∧ w'.cell? ⟨w.heap.size, 1, none⟩ = some (.int .i64 y0) ∧ w'.cell? ⟨w.heap.size, 2, none⟩ = some (.int .i64 x1) ∧ w'.cell? ⟨w.heap.size, 3, none⟩ = some (.int .i64 y1) ∧ w'.cell? ⟨w.heap.size, 4, none⟩ = some (.int .i64 rt) ∧ w'.cell? ⟨w.heap.size, 5, none⟩ = some (.int .i64 ys) ∧ w'.cell? ⟨w.heap.size, 6, none⟩ = some (.int .i64 cs) ∧ w'.cell? ⟨w.heap.size, 7, none⟩ = some (.int .i64 at4) ∧ w'.cell? ⟨w.heap.size, 8, none⟩ = some (.slice A1 z1.length c1) ∧ w'.cell? ⟨w.heap.size, 9, none⟩ = some (.slice A2 z2.length c2) ∧ w'.cell? ⟨w.heap.size, 10, none⟩ = some (.slice A3 z3.length c3) ∧ w'.cell? ⟨w.heap.size, 11, none⟩ = some (.slice A4 z4.length c4) ∧ w'.cell? ⟨br, 0, none⟩ = some (.int .i64 a0) ∧ w'.cell? ⟨br, 1, none⟩ = some (.int .i64 b0) ∧ w'.cell? ⟨br, 2, none⟩ = some (.int .i64 a1) ∧ w'.cell? ⟨br, 3, none⟩ = some (.int .i64 b1))
          ((refine TOS.out _ ?_; first | with_reducible exact P0 | with_reducible exact P0a | with_reducible exact P1 | with_reducible exact P1.alloc P1.size _ | with_reducible exact P2 | with_reducible exact P2.alloc P2.size _ | with_reducible exact P3 | with_reducible exact P3.alloc P3.size _ | with_reducible exact ((((P3.setCell (Nat.le_refl _) _).setCell (Nat.le_refl _) _).setCell (Nat.le_refl _) _).setCell (Nat.le_refl _) _) | with_reducible exact ((((P3.setCell P1.size _).setCell P1.size _).setCell P1.size _).setCell P1.size _) | with_reducible exact ((((P3.setCell P2.size _).setCell P2.size _).setCell P2.size _).setCell P2.size _)))
          (first | (go_at_call 11; have _t := tok1; refine (box_any x0 y0 x1 y1 _).mono ?_; rintro e u1 ⟨rfl, hv1⟩; clear tok1; (first | (have P1 : Below WA.heap.size WA u1 := P0.trans (hv1.mono P0.size); skip) | (have P1 : Below WA.heap.size WA u1 := P0a.trans (hv1.mono P0a.size); have zc0 : u1.cell? ⟨WA.heap.size, 0, none⟩ = some (.int .i64 0) := ((bcell hv1).1 _ 0 (by simp)).trans (by simp); have zf0 : u1.frozen? ⟨WA.heap.size, 0, none⟩ = false := ((bcell hv1).2 _ 0 (by simp)).trans (by simp); have zc1 : u1.cell? ⟨WA.heap.size, 1, none⟩ = some (.int .i64 0) := ((bcell hv1).1 _ 1 (by simp)).trans (by simp); have zf1 : u1.frozen? ⟨WA.heap.size, 1, none⟩ = false := ((bcell hv1).2 _ 1 (by simp)).trans (by simp); have zc2 : u1.cell? ⟨WA.heap.size, 2, none⟩ = some (.int .i64 0) := ((bcell hv1).1 _ 2 (by simp)).trans (by simp); have zf2 : u1.frozen? ⟨WA.heap.size, 2, none⟩ = false := ((bcell hv1).2 _ 2 (by simp)).trans (by simp); have zc3 : u1.cell? ⟨WA.heap.size, 3, none⟩ = some (.int .i64 0) := ((bcell hv1).1 _ 3 (by simp)).trans (by simp); have zf3 : u1.frozen? ⟨WA.heap.size, 3, none⟩ = false := ((bcell hv1).2 _ 3 (by simp)).trans (by simp)))) | (go_at_call 11; refine (box_any a0 b0 a1 b1 _).mono ?_; rintro e u2 ⟨rfl, hv2⟩; (first | (have P2 : Below WA.heap.size WA u2 := P1.trans (hv2.mono P1.size); (try (replace zf0 := frozenK zc0 zf0 hv2; replace zc0 := cell_kept zc0 hv2; replace zf1 := frozenK zc1 zf1 hv2; replace zc1 := cell_kept zc1 hv2; replace zf2 := frozenK zc2 zf2 hv2; replace zc2 := cell_kept zc2 hv2; replace zf3 := frozenK zc3 zf3 hv2; replace zc3 := cell_kept zc3 hv2))) | (have P2 : Below WA.heap.size WA u2 := (P1.alloc P1.size (.cells #[.int .i64 0, .int .i64 0, .int .i64 0, .int .i64 0] 25)).trans (hv2.mono (P1.alloc P1.size (.cells #[.int .i64 0, .int .i64 0, .int .i64 0, .int .i64 0] 25)).size); have zc0 : u2.cell? ⟨u1.heap.size, 0, none⟩ = some (.int .i64 0) := ((bcell hv2).1 _ 0 (by simp)).trans (by simp); have zf0 : u2.frozen? ⟨u1.heap.size, 0, none⟩ = false := ((bcell hv2).2 _ 0 (by simp)).trans (by simp); have zc1 : u2.cell? ⟨u1.heap.size, 1, none⟩ = some (.int .i64 0) := ((bcell hv2).1 _ 1 (by simp)).trans (by simp); have zf1 : u2.frozen? ⟨u1.heap.size, 1, none⟩ = false := ((bcell hv2).2 _ 1 (by simp)).trans (by simp); have zc2 : u2.cell? ⟨u1.heap.size, 2, none⟩ = some (.int .i64 0) := ((bcell hv2).1 _ 2 (by simp)).trans (by simp); have zf2 : u2.frozen? ⟨u1.heap.size, 2, none⟩ = false := ((bcell hv2).2 _ 2 (by simp)).trans (by simp); have zc3 : u2.cell? ⟨u1.heap.size, 3, none⟩ = some (.int .i64 0) := ((bcell hv2).1 _ 3 (by simp)).trans (by simp); have zf3 : u2.frozen? ⟨u1.heap.size, 3, none⟩ = false := ((bcell hv2).2 _ 3 (by simp)).trans (by simp)))) | (go_at_call 18; refine (common_some x0 y0 x1 y1 a0 b0 a1 b1 _ nx1 nx2 nx3 nx4 N5.out N6.out).mono ?_; rw [m1.out, m2.out, m3.out, m4.out]; rintro e u3 ⟨rfl, hv3⟩; (first | (have P3 : Below WA.heap.size WA u3 := P2.trans (hv3.mono P2.size); (try (replace zf0 := frozenK zc0 zf0 hv3; replace zc0 := cell_kept zc0 hv3; replace zf1 := frozenK zc1 zf1 hv3; replace zc1 := cell_kept zc1 hv3; replace zf2 := frozenK zc2 zf2 hv3; replace zc2 := cell_kept zc2 hv3; replace zf3 := frozenK zc3 zf3 hv3; replace zc3 := cell_kept zc3 hv3))) | (have P3 : Below WA.heap.size WA u3 := (P2.alloc P2.size (.cells #[.int .i64 0, .int .i64 0, .int .i64 0, .int .i64 0] 25)).trans (hv3.mono (P2.alloc P2.size (.cells #[.int .i64 0, .int .i64 0, .int .i64 0, .int .i64 0] 25)).size); have zc0 : u3.cell? ⟨u2.heap.size, 0, none⟩ = some (.int .i64 0) := ((bcell hv3).1 _ 0 (by simp)).trans (by simp); have zf0 : u3.frozen? ⟨u2.heap.size, 0, none⟩ = false := ((bcell hv3).2 _ 0 (by simp)).trans (by simp); have zc1 : u3.cell? ⟨u2.heap.size, 1, none⟩ = some (.int .i64 0) := ((bcell hv3).1 _ 1 (by simp)).trans (by simp); have zf1 : u3.frozen? ⟨u2.heap.size, 1, none⟩ = false := ((bcell hv3).2 _ 1 (by simp)).trans (by simp); have zc2 : u3.cell? ⟨u2.heap.size, 2, none⟩ = some (.int .i64 0) := ((bcell hv3).1 _ 2 (by simp)).trans (by simp); have zf2 : u3.frozen? ⟨u2.heap.size, 2, none⟩ = false := ((bcell hv3).2 _ 2 (by simp)).trans (by simp); have zc3 : u3.cell? ⟨u2.heap.size, 3, none⟩ = some (.int .i64 0) := ((bcell hv3).1 _ 3 (by simp)).trans (by simp); have zf3 : u3.frozen? ⟨u2.heap.size, 3, none⟩ = false := ((bcell hv3).2 _ 3 (by simp)).trans (by simp)))))
        all_goals
          go_wp2_with fail
          go_meet
          have z1 := P1.size
          have z2 := P2.size
          have z3 := P3.size
          have y2 := hv2.size
          have y3 := hv3.size
          first
            | exact ⟨u3.heap.size, rfl, rfl, P3.size, by simp, P3.alloc P3.size _, by simp, by simp, by simp, by simp⟩
            | exact ⟨WA.heap.size, rfl, rfl, Nat.le_refl _, lt_sets (World.block_lt_of_cell? _ _ zc0) (by simp [World.setCell]), ((((P3.setCell (Nat.le_refl _) _).setCell (Nat.le_refl _) _).setCell (Nat.le_refl _) _).setCell (Nat.le_refl _) _), by go_simp, by go_simp, by go_simp, by go_simp⟩
            | exact ⟨u1.heap.size, rfl, rfl, P1.size, lt_sets (World.block_lt_of_cell? _ _ zc0) (by simp [World.setCell]), ((((P3.setCell P1.size _).setCell P1.size _).setCell P1.size _).setCell P1.size _), by go_simp, by go_simp, by go_simp, by go_simp⟩
            | exact ⟨u2.heap.size, rfl, rfl, P2.size, lt_sets (World.block_lt_of_cell? _ _ zc0) (by simp [World.setCell]), ((((P3.setCell P2.size _).setCell P2.size _).setCell P2.size _).setCell P2.size _), by go_simp, by go_simp, by go_simp, by go_simp⟩
      case rest =>
        clear TOS P0 P0a
        obtain ⟨bc, rfl, rfl, hbc, hbl, hBm, cc0, cc1, cc2, cc3⟩ := hcut
        replace D0 := cell_kept D0 hBm
        replace D1 := cell_kept D1 hBm
        replace D2 := cell_kept D2 hBm
        replace D3 := cell_kept D3 hBm
        replace D4 := cell_kept D4 hBm
        replace D5 := cell_kept D5 hBm
        replace D6 := cell_kept D6 hBm
        replace D7 := cell_kept D7 hBm
        replace D8 := cell_kept D8 hBm
        replace D9 := cell_kept D9 hBm
        replace D10 := cell_kept D10 hBm
        replace D11 := cell_kept D11 hBm
        replace R0 := cell_kept R0 hBm
        replace R1 := cell_kept R1 hBm
        replace R2 := cell_kept R2 hBm
        replace R3 := cell_kept R3 hBm
        replace M0 := cell_kept M0 hBm
        replace M1 := cell_kept M1 hBm
        replace M2 := cell_kept M2 hBm
        replace M3 := cell_kept M3 hBm
        replace M4 := cell_kept M4 hBm
        replace M5 := cell_kept M5 hBm
        replace M6 := cell_kept M6 hBm
        replace M7 := cell_kept M7 hBm
        replace M8 := cell_kept M8 hBm
        replace M9 := cell_kept M9 hBm
        replace M10 := cell_kept M10 hBm
        replace M11 := cell_kept M11 hBm
        replace HR1 := Lib.hid (HR1.out.below hBm)
        replace HR2 := Lib.hid (HR2.out.below hBm)
        replace HR3 := Lib.hid (HR3.out.below hBm)
        replace HR4 := Lib.hid (HR4.out.below hBm)
        replace HO1 := Lib.hid (ownsRow_below HO1.out hBm)
        replace HO2 := Lib.hid (ownsRow_below HO2.out hBm)
        replace HO3 := Lib.hid (ownsRow_below HO3.out hBm)
        replace HO4 := Lib.hid (ownsRow_below HO4.out hBm)
        replace hB := hB.trans (hBm.mono hB.size)
        clear hBm hbc
        go_wp2_with fail
        have P0 : Below wc.heap.size wc wc.drew := (Below.refl _ _).drew
        have toS : ∀ W' : World, Below wc.heap.size wc W' → (W'.cell? ⟨w.heap.size, 0, none⟩ = some (.int .i64 x0) ∧ W'.cell? ⟨w.heap.size, 1, none⟩ = some (.int .i64 y0) ∧ W'.cell? ⟨w.heap.size, 2, none⟩ = some (.int .i64 x1) ∧ W'.cell? ⟨w.heap.size, 3, none⟩ = some (.int .i64 y1) ∧ W'.cell? ⟨w.heap.size, 4, none⟩ = some (.int .i64 rt) ∧ W'.cell? ⟨w.heap.size, 5, none⟩ = some (.int .i64 ys) ∧ W'.cell? ⟨w.heap.size, 6, none⟩ = some (.int .i64 cs) ∧ W'.cell? ⟨w.heap.size, 7, none⟩ = some (.int .i64 at4) ∧ W'.cell? ⟨w.heap.size, 8, none⟩ = some (.slice A1 z1.length c1) ∧ W'.cell? ⟨w.heap.size, 9, none⟩ = some (.slice A2 z2.length c2) ∧ W'.cell? ⟨w.heap.size, 10, none⟩ = some (.slice A3 z3.length c3) ∧ W'.cell? ⟨w.heap.size, 11, none⟩ = some (.slice A4 z4.length c4) ∧ W'.cell? ⟨br, 0, none⟩ = some (.int .i64 a0) ∧ W'.cell? ⟨br, 1, none⟩ = some (.int .i64 b0) ∧ W'.cell? ⟨br, 2, none⟩ = some (.int .i64 a1) ∧ W'.cell? ⟨br, 3, none⟩ = some (.int .i64 b1) ∧ W'.cell? ⟨ba, 0, none⟩ = some (.int .i64 c0') ∧ W'.cell? ⟨ba, 1, none⟩ = some (.int .i64 d0') ∧ W'.cell? ⟨ba, 2, none⟩ = some (.int .i64 c1') ∧ W'.cell? ⟨ba, 3, none⟩ = some (.int .i64 d1') ∧ W'.cell? ⟨ba, 4, none⟩ = some (.int .i64 rt) ∧ W'.cell? ⟨ba, 5, none⟩ = some (.int .i64 ys) ∧ W'.cell? ⟨ba, 6, none⟩ = some (.int .i64 cs) ∧ W'.cell? ⟨ba, 7, none⟩ = some (.int .i64 at4) ∧ W'.cell? ⟨ba, 8, none⟩ = some (.slice E1 s1.length f1') ∧ W'.cell? ⟨ba, 9, none⟩ = some (.slice E2 s2.length f2') ∧ W'.cell? ⟨ba, 10, none⟩ = some (.slice E3 s3.length f3') ∧ W'.cell? ⟨ba, 11, none⟩ = some (.slice E4 s4.length f4') ∧ W'.cell? ⟨bc, 0, none⟩ = some (.int .i64 c0') ∧ W'.cell? ⟨bc, 1, none⟩ = some (.int .i64 d0') ∧ W'.cell? ⟨bc, 2, none⟩ = some (.int .i64 c1') ∧ W'.cell? ⟨bc, 3, none⟩ = some (.int .i64 d1')) := fun W' h => ⟨cell_kept D0 h, cell_kept D1 h, cell_kept D2 h, cell_kept D3 h, cell_kept D4 h, cell_kept D5 h, cell_kept D6 h, cell_kept D7 h, cell_kept D8 h, cell_kept D9 h, cell_kept D10 h, cell_kept D11 h, cell_kept R0 h, cell_kept R1 h, cell_kept R2 h, cell_kept R3 h, cell_kept M0 h, cell_kept M1 h, cell_kept M2 h, cell_kept M3 h, cell_kept M4 h, cell_kept M5 h, cell_kept M6 h, cell_kept M7 h, cell_kept M8 h, cell_kept M9 h, cell_kept M10 h, cell_kept M11 h, cell_kept cc0 h, cell_kept cc1 h, cell_kept cc2 h, cell_kept cc3 h⟩
        have TOS := Lib.hid toS
        clear toS
        have hzN := hB.size
        refine wp_region_held_drew (S := fun w' => w'.cell? ⟨w.heap.size, 0, none⟩ = some (.int .i64 x0) ∧ w'.cell? ⟨w.heap.size, 1, none⟩ = some (.int .i64 y0) ∧ w'.cell? ⟨w.heap.size, 2, none⟩ = some (.int .i64 x1) ∧ w'.cell? ⟨w.heap.size, 3, none⟩ = some (.int .i64 y1) ∧ w'.cell? ⟨w.heap.size, 4, none⟩ = some (.int .i64 rt) ∧ w'.cell? ⟨w.heap.size, 5, none⟩ = some (.int .i64 ys) ∧ w'.cell? ⟨w.heap.size, 6, none⟩ = some (.int .i64 cs) ∧ w'.cell? ⟨w.heap.size, 7, none⟩ = some (.int .i64 at4) ∧ w'.cell? ⟨w.heap.size, 8, none⟩ = some (.slice A1 z1.length c1) ∧ w'.cell? ⟨w.heap.size, 9, none⟩ = some (.slice A2 z2.length c2) ∧ w'.cell? ⟨w.heap.size, 10, none⟩ = some (.slice A3 z3.length c3) ∧ w'.cell? ⟨w.heap.size, 11, none⟩ = some (.slice A4 z4.length c4) ∧ w'.cell? ⟨br, 0, none⟩ = some (.int .i64 a0) ∧ w'.cell? ⟨br, 1, none⟩ = some (.int .i64 b0) ∧ w'.cell? ⟨br, 2, none⟩ = some (.int .i64 a1) ∧ w'.cell? ⟨br, 3, none⟩ = some (.int .i64 b1) ∧ w'.cell? ⟨ba, 0, none⟩ = some (.int .i64 c0') ∧ w'.cell? ⟨ba, 1, none⟩ = some (.int .i64 d0') ∧ w'.cell? ⟨ba, 2, none⟩ = some (.int .i64 c1') ∧ w'.cell? ⟨ba, 3, none⟩ = some (.int .i64 d1') ∧ w'.cell? ⟨ba, 4, none⟩ = some (.int .i64 rt) ∧ w'.cell? ⟨ba, 5, none⟩ = some (.int .i64 ys) ∧ w'.cell? ⟨ba, 6, none⟩ = some (.int .i64 cs) ∧ w'.cell? ⟨ba, 7, none⟩ = some (.int .i64 at4) ∧ w'.cell? ⟨ba, 8, none⟩ = some (.slice E1 s1.length f1') ∧ w'.cell? ⟨ba, 9, none⟩ = some (.slice E2 s2.length f2') ∧ w'.cell? ⟨ba, 10, none⟩ = some (.slice E3 s3.length f3') ∧ w'.cell? ⟨ba, 11, none⟩ = some (.slice E4 s4.length f4') ∧ w'.cell? ⟨bc, 0, none⟩ = some (.int .i64 c0') ∧ w'.cell? ⟨bc, 1, none⟩ = some (.int .i64 d0') ∧ w'.cell? ⟨bc, 2, none⟩ = some (.int .i64 c1') ∧ w'.cell? ⟨bc, 3, none⟩ = some (.int .i64 d1')) (by kernel_rfl) ?_ (fun hHeld => ?_)
        · (first | (refine TOS.out _ ?_; first | with_reducible exact P1 | with_reducible exact P0))
        refine wpAnyH_take (i := 0) (oi := _) (v := ?vr3_0) rfl (by kernel_rfl) (by kernel_rfl) (by kernel_rfl) (fun _ _ _ h => h) (Or.inl ⟨by rfl, ?hyr3_0⟩) (by assumption) ?restr3_0
        case hyr3_0 => (intro w hSw; (try dsimp only at hSw); go_simp <;> with_reducible rfl)
        try simp only [Act.put, List.getElem_toArray, List.getElem_cons_succ, List.getElem_cons_zero, List.setIfInBounds_toArray, List.set_cons_zero, List.set_cons_succ]
        refine wpAnyH_take (i := 1) (oi := _) (v := ?vr3_1) rfl (by kernel_rfl) (by kernel_rfl) (by kernel_rfl) (fun _ _ _ h => h) (Or.inl ⟨by rfl, ?hyr3_1⟩) (by assumption) ?restr3_1
        case hyr3_1 => (intro w hSw; (try dsimp only at hSw); go_simp <;> with_reducible rfl)
        try simp only [Act.put, List.getElem_toArray, List.getElem_cons_succ, List.getElem_cons_zero, List.setIfInBounds_toArray, List.set_cons_zero, List.set_cons_succ]
        refine wpAnyH_take (i := 3) (oi := _) (v := ?vr3_3) rfl (by kernel_rfl) (by kernel_rfl) (by kernel_rfl) (fun _ _ _ h => h) (Or.inl ⟨by rfl, ?hyr3_3⟩) (by assumption) ?restr3_3
        case hyr3_3 => (intro w hSw; (try dsimp only at hSw); go_simp <;> with_reducible rfl)
        try simp only [Act.put, List.getElem_toArray, List.getElem_cons_succ, List.getElem_cons_zero, List.setIfInBounds_toArray, List.set_cons_zero, List.set_cons_succ]
        refine wpAnyH_ready (rs := [2]) (by kernel_rfl) (by simp) ?_
        refine AllReadyH.cons (o := _) rfl (fun K hK => ?_) AllReadyH.nil
        go_simp
        (go_at_call 11; refine (box_any c0' d0' c1' d1' _).mono ?_; rintro e v1' ⟨rfl, hq1⟩; have P1 : Below wc.heap.size wc v1' := P0.trans (hq1.mono P0.size))
        refine hK.out _ _ ?_ (fun hHeld => ?_)
        · (first | (refine TOS.out _ ?_; first | with_reducible exact P1 | with_reducible exact P0))
        clear hK K
        try simp only [Act.put, List.getElem_toArray, List.getElem_cons_succ, List.getElem_cons_zero, List.setIfInBounds_toArray, List.set_cons_zero, List.set_cons_succ]
        refine wpAnyH_take (i := 4) (oi := _) (v := ?vr3_4) rfl (by kernel_rfl) (by kernel_rfl) (by kernel_rfl) (fun _ _ _ h => h) (Or.inl ⟨by rfl, ?hyr3_4⟩) (by assumption) ?restr3_4
        case hyr3_4 => (intro w hSw; (try dsimp only at hSw); go_simp <;> with_reducible rfl)
        try simp only [Act.put, List.getElem_toArray, List.getElem_cons_succ, List.getElem_cons_zero, List.setIfInBounds_toArray, List.set_cons_zero, List.set_cons_succ]
        refine wpAnyH_take (i := 5) (oi := _) (v := ?vr3_5) rfl (by kernel_rfl) (by kernel_rfl) (by kernel_rfl) (fun _ _ _ h => h) (Or.inl ⟨by rfl, ?hyr3_5⟩) (by assumption) ?restr3_5
        case hyr3_5 => (intro w hSw; (try dsimp only at hSw); go_simp <;> with_reducible rfl)
        try simp only [Act.put, List.getElem_toArray, List.getElem_cons_succ, List.getElem_cons_zero, List.setIfInBounds_toArray, List.set_cons_zero, List.set_cons_succ]
        refine wpAnyH_take (i := 6) (oi := _) (v := ?vr3_6) rfl (by kernel_rfl) (by kernel_rfl) (by kernel_rfl) (fun _ _ _ h => h) (Or.inl ⟨by rfl, ?hyr3_6⟩) (by assumption) ?restr3_6
        case hyr3_6 => (intro w hSw; (try dsimp only at hSw); go_simp <;> with_reducible rfl)
        try simp only [Act.put, List.getElem_toArray, List.getElem_cons_succ, List.getElem_cons_zero, List.setIfInBounds_toArray, List.set_cons_zero, List.set_cons_succ]
        refine wpAnyH_take (i := 7) (oi := _) (v := ?vr3_7) rfl (by kernel_rfl) (by kernel_rfl) (by kernel_rfl) (fun _ _ _ h => h) (Or.inl ⟨by rfl, ?hyr3_7⟩) (by assumption) ?restr3_7
        case hyr3_7 => (intro w hSw; (try dsimp only at hSw); go_simp <;> with_reducible rfl)
        try simp only [Act.put, List.getElem_toArray, List.getElem_cons_succ, List.getElem_cons_zero, List.setIfInBounds_toArray, List.set_cons_zero, List.set_cons_succ]
        refine wpAnyH_take (i := 8) (oi := _) (v := ?vr3_8) rfl (by kernel_rfl) (by kernel_rfl) (by kernel_rfl) (fun _ _ _ h => h) (Or.inl ⟨by rfl, ?hyr3_8⟩) (by assumption) ?restr3_8
        case hyr3_8 => (intro w hSw; (try dsimp only at hSw); go_simp <;> with_reducible rfl)
        try simp only [Act.put, List.getElem_toArray, List.getElem_cons_succ, List.getElem_cons_zero, List.setIfInBounds_toArray, List.set_cons_zero, List.set_cons_succ]
        refine wpAnyH_take (i := 9) (oi := _) (v := ?vr3_9) rfl (by kernel_rfl) (by kernel_rfl) (by kernel_rfl) (fun _ _ _ h => h) (Or.inl ⟨by rfl, ?hyr3_9⟩) (by assumption) ?restr3_9
        case hyr3_9 => (intro w hSw; (try dsimp only at hSw); go_simp <;> with_reducible rfl)
        try simp only [Act.put, List.getElem_toArray, List.getElem_cons_succ, List.getElem_cons_zero, List.setIfInBounds_toArray, List.set_cons_zero, List.set_cons_succ]
        refine wpAnyH_take (i := 10) (oi := _) (v := ?vr3_10) rfl (by kernel_rfl) (by kernel_rfl) (by kernel_rfl) (fun _ _ _ h => h) (Or.inl ⟨by rfl, ?hyr3_10⟩) (by assumption) ?restr3_10
        case hyr3_10 => (intro w hSw; (try dsimp only at hSw); go_simp <;> with_reducible rfl)
        try simp only [Act.put, List.getElem_toArray, List.getElem_cons_succ, List.getElem_cons_zero, List.setIfInBounds_toArray, List.set_cons_zero, List.set_cons_succ]
        refine wpAnyH_take (i := 11) (oi := _) (v := ?vr3_11) rfl (by kernel_rfl) (by kernel_rfl) (by kernel_rfl) (fun _ _ _ h => h) (Or.inl ⟨by rfl, ?hyr3_11⟩) (by assumption) ?restr3_11
        case hyr3_11 => (intro w hSw; (try dsimp only at hSw); go_simp <;> with_reducible rfl)
        try simp only [Act.put, List.getElem_toArray, List.getElem_cons_succ, List.getElem_cons_zero, List.setIfInBounds_toArray, List.set_cons_zero, List.set_cons_succ]
        refine wpAnyH_done (by kernel_rfl) ?_ _
        have hBn := P1
        clear TOS hHeld P0 hzN
        replace D0 := cell_kept D0 hBn
        replace D1 := cell_kept D1 hBn
        replace D2 := cell_kept D2 hBn
        replace D3 := cell_kept D3 hBn
        replace D4 := cell_kept D4 hBn
        replace D5 := cell_kept D5 hBn
        replace D6 := cell_kept D6 hBn
        replace D7 := cell_kept D7 hBn
        replace D8 := cell_kept D8 hBn
        replace D9 := cell_kept D9 hBn
        replace D10 := cell_kept D10 hBn
        replace D11 := cell_kept D11 hBn
        replace R0 := cell_kept R0 hBn
        replace R1 := cell_kept R1 hBn
        replace R2 := cell_kept R2 hBn
        replace R3 := cell_kept R3 hBn
        replace M0 := cell_kept M0 hBn
        replace M1 := cell_kept M1 hBn
        replace M2 := cell_kept M2 hBn
        replace M3 := cell_kept M3 hBn
        replace M4 := cell_kept M4 hBn
        replace M5 := cell_kept M5 hBn
        replace M6 := cell_kept M6 hBn
        replace M7 := cell_kept M7 hBn
        replace M8 := cell_kept M8 hBn
        replace M9 := cell_kept M9 hBn
        replace M10 := cell_kept M10 hBn
        replace M11 := cell_kept M11 hBn
        replace cc0 := cell_kept cc0 hBn
        replace cc1 := cell_kept cc1 hBn
        replace cc2 := cell_kept cc2 hBn
        replace cc3 := cell_kept cc3 hBn
        replace HR1 := Lib.hid (HR1.out.below hBn)
        replace HR2 := Lib.hid (HR2.out.below hBn)
        replace HR3 := Lib.hid (HR3.out.below hBn)
        replace HR4 := Lib.hid (HR4.out.below hBn)
        replace HO1 := Lib.hid (ownsRow_below HO1.out hBn)
        replace HO2 := Lib.hid (ownsRow_below HO2.out hBn)
        replace HO3 := Lib.hid (ownsRow_below HO3.out hBn)
        replace HO4 := Lib.hid (ownsRow_below HO4.out hBn)
        replace hB := hB.trans (hBn.mono hB.size)
        clear hBn hq1 P1
        go_wp2_with fail
        have HN1 := Lib.hid (own_nil HO1.out)
        have HM1 := Lib.hid (Reads.of_own HO1.out)
        have HN2 := Lib.hid (own_nil HO2.out)
        have HM2 := Lib.hid (Reads.of_own HO2.out)
        have HN3 := Lib.hid (own_nil HO3.out)
        have HM3 := Lib.hid (Reads.of_own HO3.out)
        have HN4 := Lib.hid (own_nil HO4.out)
        have HM4 := Lib.hid (Reads.of_own HO4.out)
        have P0 : Below v1'.heap.size v1' v1'.drew := (Below.refl _ _).drew
        have toS : ∀ W' : World, Below v1'.heap.size v1' W' → (W'.cell? ⟨w.heap.size, 0, none⟩ = some (.int .i64 x0) ∧ W'.cell? ⟨w.heap.size, 1, none⟩ = some (.int .i64 y0) ∧ W'.cell? ⟨w.heap.size, 2, none⟩ = some (.int .i64 x1) ∧ W'.cell? ⟨w.heap.size, 3, none⟩ = some (.int .i64 y1) ∧ W'.cell? ⟨w.heap.size, 4, none⟩ = some (.int .i64 rt) ∧ W'.cell? ⟨w.heap.size, 5, none⟩ = some (.int .i64 ys) ∧ W'.cell? ⟨w.heap.size, 6, none⟩ = some (.int .i64 cs) ∧ W'.cell? ⟨w.heap.size, 7, none⟩ = some (.int .i64 at4) ∧ W'.cell? ⟨w.heap.size, 8, none⟩ = some (.slice A1 z1.length c1) ∧ W'.cell? ⟨w.heap.size, 9, none⟩ = some (.slice A2 z2.length c2) ∧ W'.cell? ⟨w.heap.size, 10, none⟩ = some (.slice A3 z3.length c3) ∧ W'.cell? ⟨w.heap.size, 11, none⟩ = some (.slice A4 z4.length c4) ∧ W'.cell? ⟨br, 0, none⟩ = some (.int .i64 a0) ∧ W'.cell? ⟨br, 1, none⟩ = some (.int .i64 b0) ∧ W'.cell? ⟨br, 2, none⟩ = some (.int .i64 a1) ∧ W'.cell? ⟨br, 3, none⟩ = some (.int .i64 b1) ∧ W'.cell? ⟨ba, 0, none⟩ = some (.int .i64 c0') ∧ W'.cell? ⟨ba, 1, none⟩ = some (.int .i64 d0') ∧ W'.cell? ⟨ba, 2, none⟩ = some (.int .i64 c1') ∧ W'.cell? ⟨ba, 3, none⟩ = some (.int .i64 d1') ∧ W'.cell? ⟨ba, 4, none⟩ = some (.int .i64 rt) ∧ W'.cell? ⟨ba, 5, none⟩ = some (.int .i64 ys) ∧ W'.cell? ⟨ba, 6, none⟩ = some (.int .i64 cs) ∧ W'.cell? ⟨ba, 7, none⟩ = some (.int .i64 at4) ∧ W'.cell? ⟨ba, 8, none⟩ = some (.slice E1 s1.length f1') ∧ W'.cell? ⟨ba, 9, none⟩ = some (.slice E2 s2.length f2') ∧ W'.cell? ⟨ba, 10, none⟩ = some (.slice E3 s3.length f3') ∧ W'.cell? ⟨ba, 11, none⟩ = some (.slice E4 s4.length f4') ∧ W'.cell? ⟨bc, 0, none⟩ = some (.int .i64 c0') ∧ W'.cell? ⟨bc, 1, none⟩ = some (.int .i64 d0') ∧ W'.cell? ⟨bc, 2, none⟩ = some (.int .i64 c1') ∧ W'.cell? ⟨bc, 3, none⟩ = some (.int .i64 d1')) := fun W' h => ⟨cell_kept D0 h, cell_kept D1 h, cell_kept D2 h, cell_kept D3 h, cell_kept D4 h, cell_kept D5 h, cell_kept D6 h, cell_kept D7 h, cell_kept D8 h, cell_kept D9 h, cell_kept D10 h, cell_kept D11 h, cell_kept R0 h, cell_kept R1 h, cell_kept R2 h, cell_kept R3 h, cell_kept M0 h, cell_kept M1 h, cell_kept M2 h, cell_kept M3 h, cell_kept M4 h, cell_kept M5 h, cell_kept M6 h, cell_kept M7 h, cell_kept M8 h, cell_kept M9 h, cell_kept M10 h, cell_kept M11 h, cell_kept cc0 h, cell_kept cc1 h, cell_kept cc2 h, cell_kept cc3 h⟩
        have TOS := Lib.hid toS
        clear toS
        have hzN := hB.size
        refine wp_region_held_drew (S := fun w' => w'.cell? ⟨w.heap.size, 0, none⟩ = some (.int .i64 x0) ∧ w'.cell? ⟨w.heap.size, 1, none⟩ = some (.int .i64 y0) ∧ w'.cell? ⟨w.heap.size, 2, none⟩ = some (.int .i64 x1) ∧ w'.cell? ⟨w.heap.size, 3, none⟩ = some (.int .i64 y1) ∧ w'.cell? ⟨w.heap.size, 4, none⟩ = some (.int .i64 rt) ∧ w'.cell? ⟨w.heap.size, 5, none⟩ = some (.int .i64 ys) ∧ w'.cell? ⟨w.heap.size, 6, none⟩ = some (.int .i64 cs) ∧ w'.cell? ⟨w.heap.size, 7, none⟩ = some (.int .i64 at4) ∧ w'.cell? ⟨w.heap.size, 8, none⟩ = some (.slice A1 z1.length c1) ∧ w'.cell? ⟨w.heap.size, 9, none⟩ = some (.slice A2 z2.length c2) ∧ w'.cell? ⟨w.heap.size, 10, none⟩ = some (.slice A3 z3.length c3) ∧ w'.cell? ⟨w.heap.size, 11, none⟩ = some (.slice A4 z4.length c4) ∧ w'.cell? ⟨br, 0, none⟩ = some (.int .i64 a0) ∧ w'.cell? ⟨br, 1, none⟩ = some (.int .i64 b0) ∧ w'.cell? ⟨br, 2, none⟩ = some (.int .i64 a1) ∧ w'.cell? ⟨br, 3, none⟩ = some (.int .i64 b1) ∧ w'.cell? ⟨ba, 0, none⟩ = some (.int .i64 c0') ∧ w'.cell? ⟨ba, 1, none⟩ = some (.int .i64 d0') ∧ w'.cell? ⟨ba, 2, none⟩ = some (.int .i64 c1') ∧ w'.cell? ⟨ba, 3, none⟩ = some (.int .i64 d1') ∧ w'.cell? ⟨ba, 4, none⟩ = some (.int .i64 rt) ∧ w'.cell? ⟨ba, 5, none⟩ = some (.int .i64 ys) ∧ w'.cell? ⟨ba, 6, none⟩ = some (.int .i64 cs) ∧ w'.cell? ⟨ba, 7, none⟩ = some (.int .i64 at4) ∧ w'.cell? ⟨ba, 8, none⟩ = some (.slice E1 s1.length f1') ∧ w'.cell? ⟨ba, 9, none⟩ = some (.slice E2 s2.length f2') ∧ w'.cell? ⟨ba, 10, none⟩ = some (.slice E3 s3.length f3') ∧ w'.cell? ⟨ba, 11, none⟩ = some (.slice E4 s4.length f4') ∧ w'.cell? ⟨bc, 0, none⟩ = some (.int .i64 c0') ∧ w'.cell? ⟨bc, 1, none⟩ = some (.int .i64 d0') ∧ w'.cell? ⟨bc, 2, none⟩ = some (.int .i64 c1') ∧ w'.cell? ⟨bc, 3, none⟩ = some (.int .i64 d1')) (by kernel_rfl) ?_ (fun hHeld => ?_)
        · (first | (refine TOS.out _ ?_; first | with_reducible exact P3 | with_reducible exact P2 | with_reducible exact P1 | with_reducible exact P0))
        refine wpAnyH_take (i := 0) (oi := _) (v := ?vr4_0) rfl (by kernel_rfl) (by kernel_rfl) (by kernel_rfl) (fun _ _ _ h => h) (Or.inl ⟨by rfl, ?hyr4_0⟩) (by assumption) ?restr4_0
        case hyr4_0 => (intro w hSw; (try dsimp only at hSw); go_simp <;> with_reducible rfl)
        try simp only [Act.put, List.getElem_toArray, List.getElem_cons_succ, List.getElem_cons_zero, List.setIfInBounds_toArray, List.set_cons_zero, List.set_cons_succ]
        refine wpAnyH_take (i := 1) (oi := _) (v := ?vr4_1) rfl (by kernel_rfl) (by kernel_rfl) (by kernel_rfl) (fun _ _ _ h => h) (Or.inl ⟨by rfl, ?hyr4_1⟩) (by assumption) ?restr4_1
        case hyr4_1 => (intro w hSw; (try dsimp only at hSw); go_simp <;> with_reducible rfl)
        try simp only [Act.put, List.getElem_toArray, List.getElem_cons_succ, List.getElem_cons_zero, List.setIfInBounds_toArray, List.set_cons_zero, List.set_cons_succ]
        refine wpAnyH_take (i := 2) (oi := _) (v := ?vr4_2) rfl (by kernel_rfl) (by kernel_rfl) (by kernel_rfl) (fun _ _ _ h => h) (Or.inl ⟨by rfl, ?hyr4_2⟩) (by assumption) ?restr4_2
        case hyr4_2 => (intro w hSw; (try dsimp only at hSw); go_simp <;> with_reducible rfl)
        try simp only [Act.put, List.getElem_toArray, List.getElem_cons_succ, List.getElem_cons_zero, List.setIfInBounds_toArray, List.set_cons_zero, List.set_cons_succ]
        refine wpAnyH_ready (rs := [3]) (by kernel_rfl) (by simp) ?_
        refine AllReadyH.cons (o := _) rfl (fun K hK => ?_) AllReadyH.nil
        go_simp
        (go_at_call 20; refine (insd_any c0' d0' c1' d1' x y true (by simp [hJ.out]) _).mono ?_; rintro e q1' ⟨rfl, hq1⟩; have P1 : Below v1'.heap.size v1' q1' := P0.trans (hq1.mono P0.size))
        refine hK.out _ _ ?_ (fun hHeld => ?_)
        · (first | (refine TOS.out _ ?_; first | with_reducible exact P3 | with_reducible exact P2 | with_reducible exact P1 | with_reducible exact P0))
        clear hK K
        try simp only [Act.put, List.getElem_toArray, List.getElem_cons_succ, List.getElem_cons_zero, List.setIfInBounds_toArray, List.set_cons_zero, List.set_cons_succ]
        refine wpAnyH_take (i := 4) (oi := _) (v := ?vr4_4) rfl (by kernel_rfl) (by kernel_rfl) (by kernel_rfl) (fun _ _ _ h => h) (Or.inl ⟨by rfl, ?hyr4_4⟩) (by assumption) ?restr4_4
        case hyr4_4 => (intro w hSw; (try dsimp only at hSw); go_simp <;> with_reducible rfl)
        try simp only [Act.put, List.getElem_toArray, List.getElem_cons_succ, List.getElem_cons_zero, List.setIfInBounds_toArray, List.set_cons_zero, List.set_cons_succ]
        refine wpAnyH_take (i := 5) (oi := _) (v := ?vr4_5) rfl (by kernel_rfl) (by kernel_rfl) (by kernel_rfl) (fun _ _ _ h => h) (Or.inl ⟨by rfl, ?hyr4_5⟩) (by assumption) ?restr4_5
        case hyr4_5 => (intro w hSw; (try dsimp only at hSw); go_simp <;> with_reducible rfl)
        try simp only [Act.put, List.getElem_toArray, List.getElem_cons_succ, List.getElem_cons_zero, List.setIfInBounds_toArray, List.set_cons_zero, List.set_cons_succ]
        refine wpAnyH_take (i := 6) (oi := _) (v := ?vr4_6) rfl (by kernel_rfl) (by kernel_rfl) (by kernel_rfl) (fun _ _ _ h => h) (Or.inl ⟨by rfl, ?hyr4_6⟩) (by assumption) ?restr4_6
        case hyr4_6 => (intro w hSw; (try dsimp only at hSw); go_simp <;> with_reducible rfl)
        try simp only [Act.put, List.getElem_toArray, List.getElem_cons_succ, List.getElem_cons_zero, List.setIfInBounds_toArray, List.set_cons_zero, List.set_cons_succ]
        refine wpAnyH_take (i := 7) (oi := _) (v := ?vr4_7) rfl (by kernel_rfl) (by kernel_rfl) (by kernel_rfl) (fun _ _ _ h => h) (Or.inl ⟨by rfl, ?hyr4_7⟩) (by assumption) ?restr4_7
        case hyr4_7 => (intro w hSw; (try dsimp only at hSw); go_simp <;> with_reducible rfl)
        try simp only [Act.put, List.getElem_toArray, List.getElem_cons_succ, List.getElem_cons_zero, List.setIfInBounds_toArray, List.set_cons_zero, List.set_cons_succ]
        refine wpAnyH_take (i := 8) (oi := _) (v := ?vr4_8) rfl (by kernel_rfl) (by kernel_rfl) (by kernel_rfl) (fun _ _ _ h => h) (Or.inl ⟨by rfl, ?hyr4_8⟩) (by assumption) ?restr4_8
        case hyr4_8 => (intro w hSw; (try dsimp only at hSw); go_simp <;> with_reducible rfl)
        try simp only [Act.put, List.getElem_toArray, List.getElem_cons_succ, List.getElem_cons_zero, List.setIfInBounds_toArray, List.set_cons_zero, List.set_cons_succ]
        refine wpAnyH_take (i := 10) (oi := _) (v := ?vr4_10) rfl (by kernel_rfl) (by kernel_rfl) (by kernel_rfl) (fun _ _ _ h => h) (Or.inl ⟨by rfl, ?hyr4_10⟩) (by assumption) ?restr4_10
        case hyr4_10 => (intro w hSw; (try dsimp only at hSw); go_simp <;> with_reducible rfl)
        try simp only [Act.put, List.getElem_toArray, List.getElem_cons_succ, List.getElem_cons_zero, List.setIfInBounds_toArray, List.set_cons_zero, List.set_cons_succ]
        refine wpAnyH_take (i := 11) (oi := _) (v := ?vr4_11) rfl (by kernel_rfl) (by kernel_rfl) (by kernel_rfl) (fun _ _ _ h => h) (Or.inl ⟨by rfl, ?hyr4_11⟩) (by assumption) ?restr4_11
        case hyr4_11 => (intro w hSw; (try dsimp only at hSw); go_simp <;> with_reducible rfl)
        try simp only [Act.put, List.getElem_toArray, List.getElem_cons_succ, List.getElem_cons_zero, List.setIfInBounds_toArray, List.set_cons_zero, List.set_cons_succ]
        refine wpAnyH_take (i := 12) (oi := _) (v := ?vr4_12) rfl (by kernel_rfl) (by kernel_rfl) (by kernel_rfl) (fun _ _ _ h => h) (Or.inl ⟨by rfl, ?hyr4_12⟩) (by assumption) ?restr4_12
        case hyr4_12 => (intro w hSw; (try dsimp only at hSw); go_simp <;> with_reducible rfl)
        try simp only [Act.put, List.getElem_toArray, List.getElem_cons_succ, List.getElem_cons_zero, List.setIfInBounds_toArray, List.set_cons_zero, List.set_cons_succ]
        refine wpAnyH_ready (rs := [9]) (by kernel_rfl) (by simp) ?_
        refine AllReadyH.cons (o := _) rfl (fun K hK => ?_) AllReadyH.nil
        go_simp
        (go_at_call 21; refine (implAt_there c0' d0' c1' d1' rt ys cs at4 E1 E2 E3 E4 f1' f2' f3' f4' s1 s2 s3 s4 x y _ (show Hid _ from HM1.out.below P1) hl1' HN1 (show Hid _ from HM2.out.below P1) hl2' HN2 (show Hid _ from HM3.out.below P1) hl3' HN3 (show Hid _ from HM4.out.below P1) hl4' HN4 hOm hTm).mono ?_; rintro e q2' ⟨rfl, hq2⟩; rw [HX.out.1, HX.out.2.1, HX.out.2.2.1, HX.out.2.2.2]; have P2 : Below v1'.heap.size v1' q2' := P1.trans (hq2.mono P1.size))
        refine hK.out _ _ ?_ (fun hHeld => ?_)
        · (first | (refine TOS.out _ ?_; first | with_reducible exact P3 | with_reducible exact P2 | with_reducible exact P1 | with_reducible exact P0))
        clear hK K
        try simp only [Act.put, List.getElem_toArray, List.getElem_cons_succ, List.getElem_cons_zero, List.setIfInBounds_toArray, List.set_cons_zero, List.set_cons_succ]
        refine wpAnyH_ready (rs := [13]) (by kernel_rfl) (by simp) ?_
        refine AllReadyH.cons (o := _) rfl (fun K hK => ?_) AllReadyH.nil
        go_simp
        (go_at_call 21; refine (implAt_there x0 y0 x1 y1 rt ys cs at4 A1 A2 A3 A4 c1 c2 c3 c4 z1 z2 z3 z4 x y _ (show Hid _ from HR1.out.below P2) hl1 hn1 (show Hid _ from HR2.out.below P2) hl2 hn2 (show Hid _ from HR3.out.below P2) hl3 hn3 (show Hid _ from HR4.out.below P2) hl4 hn4 hO hT).mono ?_; rintro e q3' ⟨rfl, hq3⟩; rw [HXX.out.1, HXX.out.2.1, HXX.out.2.2.1, HXX.out.2.2.2]; have P3 : Below v1'.heap.size v1' q3' := P2.trans (hq3.mono P2.size))
        refine hK.out _ _ ?_ (fun hHeld => ?_)
        · (first | (refine TOS.out _ ?_; first | with_reducible exact P3 | with_reducible exact P2 | with_reducible exact P1 | with_reducible exact P0))
        clear hK K
        try simp only [Act.put, List.getElem_toArray, List.getElem_cons_succ, List.getElem_cons_zero, List.setIfInBounds_toArray, List.set_cons_zero, List.set_cons_succ]
        refine wpAnyH_take (i := 14) (oi := _) (v := ?vr4_14) rfl (by kernel_rfl) (by kernel_rfl) (by kernel_rfl) (fun _ _ _ h => h) (Or.inl ⟨by rfl, ?hyr4_14⟩) (by assumption) ?restr4_14
        case hyr4_14 => (intro w hSw; (try dsimp only at hSw); go_simp <;> with_reducible rfl)
        try simp only [Act.put, List.getElem_toArray, List.getElem_cons_succ, List.getElem_cons_zero, List.setIfInBounds_toArray, List.set_cons_zero, List.set_cons_succ]
        refine wpAnyH_take (i := 15) (oi := _) (v := ?vr4_15) rfl (by kernel_rfl) (by kernel_rfl) (by kernel_rfl) (fun _ _ _ h => h) (Or.inl ⟨by rfl, ?hyr4_15⟩) (by assumption) ?restr4_15
        case hyr4_15 => (intro w hSw; (try dsimp only at hSw); go_simp <;> with_reducible rfl)
        try simp only [Act.put, List.getElem_toArray, List.getElem_cons_succ, List.getElem_cons_zero, List.setIfInBounds_toArray, List.set_cons_zero, List.set_cons_succ]
        refine wpAnyH_take (i := 16) (oi := _) (v := ?vr4_16) rfl (by kernel_rfl) (by kernel_rfl) (by kernel_rfl) (fun _ _ _ h => h) (Or.inl ⟨by rfl, ?hyr4_16⟩) (by assumption) ?restr4_16
        case hyr4_16 => (intro w hSw; (try dsimp only at hSw); go_simp <;> with_reducible rfl)
        try simp only [Act.put, List.getElem_toArray, List.getElem_cons_succ, List.getElem_cons_zero, List.setIfInBounds_toArray, List.set_cons_zero, List.set_cons_succ]
        refine wpAnyH_done (by kernel_rfl) ?_ _
        go_wp2
        go_ret
        exact ⟨by simp, hB.trans (P3.mono hzN)⟩

theorem walk_sub (x0 y0 x1 y1 rt ys cs at4 : Int) (A1 A2 A3 A4 : Option Addr) (c1 c2 c3 c4 : Nat) (z1 z2 z3 z4 : List Int) (a0 b0 a1 b1 x y : Int) (w : World) (hr1 : Hid (Reads w A1 z1)) (hl1 : Small z1) (hn1 : Hid (A1 = none → c1 = 0)) (hr2 : Hid (Reads w A2 z2)) (hl2 : Small z2) (hn2 : Hid (A2 = none → c2 = 0)) (hr3 : Hid (Reads w A3 z3)) (hl3 : Small z3) (hn3 : Hid (A3 = none → c3 = 0)) (hr4 : Hid (Reads w A4 z4)) (hl4 : Small z4) (hn4 : Hid (A4 = none → c4 = 0)) :
    Calls Try.prog 4 #[.agg #[.int .i64 x0, .int .i64 y0, .int .i64 x1, .int .i64 y1, .int .i64 rt, .int .i64 ys, .int .i64 cs, .int .i64 at4, .slice A1 z1.length c1, .slice A2 z2.length c2, .slice A3 z3.length c3, .slice A4 z4.length c4], .agg #[.int .i64 a0, .int .i64 b0, .int .i64 a1, .int .i64 b1], .int .i64 x, .int .i64 y] w fun e w' => e = .returned (.bool true) ∧ Below w.heap.size w w' := by
  by_cases hF : FairF x0 y0 x1 y1 ys cs at4
  · by_cases hN : Near4 a0 b0 a1 b1
    · by_cases hQ : 0 ≤ rt ∧ rt ≤ 5
      · by_cases m1 : 0 ≤ x0
        · by_cases m2 : 0 ≤ y0
          · by_cases hA : AllT x0 y0 x1 y1 rt ys cs at4 z1.length z2.length z3.length z4.length
            · by_cases hE : min x1 a1 ≤ max x0 a0 ∨ min y1 b1 ≤ max y0 b0
              · exact sub_none x0 y0 x1 y1 rt ys cs at4 A1 A2 A3 A4 c1 c2 c3 c4 z1 z2 z3 z4 a0 b0 a1 b1 x y w hr1 hl1 hn1 hr2 hl2 hn2 hr3 hl3 hn3 hr4 hl4 hn4 hF hN hQ m1 m2 hA hE
              · by_cases hJ : Insd (max x0 a0) (max y0 b0) (min x1 a1) (min y1 b1) x y
                · exact sub_in x0 y0 x1 y1 rt ys cs at4 A1 A2 A3 A4 c1 c2 c3 c4 z1 z2 z3 z4 a0 b0 a1 b1 x y w hr1 hl1 hn1 hr2 hl2 hn2 hr3 hl3 hn3 hr4 hl4 hn4 hF hN hQ m1 m2 hA _ _ _ _ rfl rfl rfl rfl (by omega) (by omega) hJ
                · exact sub_out x0 y0 x1 y1 rt ys cs at4 A1 A2 A3 A4 c1 c2 c3 c4 z1 z2 z3 z4 a0 b0 a1 b1 x y w hr1 hl1 hn1 hr2 hl2 hn2 hr3 hl3 hn3 hr4 hl4 hn4 hF hN hQ m1 m2 hA _ _ _ _ rfl rfl rfl rfl (by omega) (by omega) hJ
            · exact sub_notall x0 y0 x1 y1 rt ys cs at4 A1 A2 A3 A4 c1 c2 c3 c4 z1 z2 z3 z4 a0 b0 a1 b1 x y w hr1 hl1 hn1 hr2 hl2 hn2 hr3 hl3 hn3 hr4 hl4 hn4 hF hN hQ m1 m2 hA
          · exact sub_g4 x0 y0 x1 y1 rt ys cs at4 A1 A2 A3 A4 c1 c2 c3 c4 z1 z2 z3 z4 a0 b0 a1 b1 x y w hr1 hl1 hn1 hr2 hl2 hn2 hr3 hl3 hn3 hr4 hl4 hn4 hF hN hQ m1 (by omega)
        · exact sub_g3 x0 y0 x1 y1 rt ys cs at4 A1 A2 A3 A4 c1 c2 c3 c4 z1 z2 z3 z4 a0 b0 a1 b1 x y w hr1 hl1 hn1 hr2 hl2 hn2 hr3 hl3 hn3 hr4 hl4 hn4 hF hN hQ (by omega)
      · exact sub_g2 x0 y0 x1 y1 rt ys cs at4 A1 A2 A3 A4 c1 c2 c3 c4 z1 z2 z3 z4 a0 b0 a1 b1 x y w hr1 hl1 hn1 hr2 hl2 hn2 hr3 hl3 hn3 hr4 hl4 hn4 hF hN hQ
    · exact sub_g1 x0 y0 x1 y1 rt ys cs at4 A1 A2 A3 A4 c1 c2 c3 c4 z1 z2 z3 z4 a0 b0 a1 b1 x y w hr1 hl1 hn1 hr2 hl2 hn2 hr3 hl3 hn3 hr4 hl4 hn4 hF hN
  · exact sub_g0 x0 y0 x1 y1 rt ys cs at4 A1 A2 A3 A4 c1 c2 c3 c4 z1 z2 z3 z4 a0 b0 a1 b1 x y w hr1 hl1 hn1 hr2 hl2 hn2 hr3 hl3 hn3 hr4 hl4 hn4 hF

end Go.Proofs.Ytcomldkihibfjaa
