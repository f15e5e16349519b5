/- The walk of the law FnNYCbCrAChroma. -/
import Derived.Test.YtcomldkihibfjaaFilmLaw
import Derived.Test.YtcomldkihibfjaaFilmAt2
import Derived.Test.YtcomldkihibfjaaCut
namespace Go.Proofs.Ytcomldkihibfjaa
open Go.RowKit
set_option linter.unusedVariables false
set_option linter.unusedSimpArgs false


set_option maxRecDepth 100000 in
set_option maxHeartbeats 2000000 in
theorem lawChroma_g0 (x0 y0 x1 y1 rt ys cs at4 : Int) (A1 A2 A3 A4 : Option Addr) (c1 c2 c3 c4 : Nat) (z1 z2 z3 z4 : List Int) (x y : Int) (w : World) (hr1 : Hid (Reads w A1 z1)) (hl1 : Small z1) (hn1 : Hid (A1 = none → c1 = 0)) (hr2 : Hid (Reads w A2 z2)) (hl2 : Small z2) (hn2 : Hid (A2 = none → c2 = 0)) (hr3 : Hid (Reads w A3 z3)) (hl3 : Small z3) (hn3 : Hid (A3 = none → c3 = 0)) (hr4 : Hid (Reads w A4 z4)) (hl4 : Small z4) (hn4 : Hid (A4 = none → c4 = 0))  (hF : Hid (¬ (FairF x0 y0 x1 y1 ys cs at4))) :
    Calls Try.prog 9 #[.agg #[.int .i64 x0, .int .i64 y0, .int .i64 x1, .int .i64 y1, .int .i64 rt, .int .i64 ys, .int .i64 cs, .int .i64 at4, .slice A1 z1.length c1, .slice A2 z2.length c2, .slice A3 z3.length c3, .slice A4 z4.length c4], .int .i64 x, .int .i64 y] w fun e w' => e = .returned (.bool true) ∧ Below w.heap.size w w' := by
  have hB : Below w.heap.size w (w.alloc (.cells #[.int .i64 x0, .int .i64 y0, .int .i64 x1, .int .i64 y1, .int .i64 rt, .int .i64 ys, .int .i64 cs, .int .i64 at4, .slice A1 z1.length c1, .slice A2 z2.length c2, .slice A3 z3.length c3, .slice A4 z4.length c4] 30)) := (Below.refl _ _).alloc (Nat.le_refl _) _
  have D0 : (w.alloc (.cells #[.int .i64 x0, .int .i64 y0, .int .i64 x1, .int .i64 y1, .int .i64 rt, .int .i64 ys, .int .i64 cs, .int .i64 at4, .slice A1 z1.length c1, .slice A2 z2.length c2, .slice A3 z3.length c3, .slice A4 z4.length c4] 30)).cell? ⟨w.heap.size, 0, none⟩ = some (.int .i64 x0) := by first | (simp; done) | go_simp
  have D1 : (w.alloc (.cells #[.int .i64 x0, .int .i64 y0, .int .i64 x1, .int .i64 y1, .int .i64 rt, .int .i64 ys, .int .i64 cs, .int .i64 at4, .slice A1 z1.length c1, .slice A2 z2.length c2, .slice A3 z3.length c3, .slice A4 z4.length c4] 30)).cell? ⟨w.heap.size, 1, none⟩ = some (.int .i64 y0) := by first | (simp; done) | go_simp
  have D2 : (w.alloc (.cells #[.int .i64 x0, .int .i64 y0, .int .i64 x1, .int .i64 y1, .int .i64 rt, .int .i64 ys, .int .i64 cs, .int .i64 at4, .slice A1 z1.length c1, .slice A2 z2.length c2, .slice A3 z3.length c3, .slice A4 z4.length c4] 30)).cell? ⟨w.heap.size, 2, none⟩ = some (.int .i64 x1) := by first | (simp; done) | go_simp
  have D3 : (w.alloc (.cells #[.int .i64 x0, .int .i64 y0, .int .i64 x1, .int .i64 y1, .int .i64 rt, .int .i64 ys, .int .i64 cs, .int .i64 at4, .slice A1 z1.length c1, .slice A2 z2.length c2, .slice A3 z3.length c3, .slice A4 z4.length c4] 30)).cell? ⟨w.heap.size, 3, none⟩ = some (.int .i64 y1) := by first | (simp; done) | go_simp
  have D4 : (w.alloc (.cells #[.int .i64 x0, .int .i64 y0, .int .i64 x1, .int .i64 y1, .int .i64 rt, .int .i64 ys, .int .i64 cs, .int .i64 at4, .slice A1 z1.length c1, .slice A2 z2.length c2, .slice A3 z3.length c3, .slice A4 z4.length c4] 30)).cell? ⟨w.heap.size, 4, none⟩ = some (.int .i64 rt) := by first | (simp; done) | go_simp
  have D5 : (w.alloc (.cells #[.int .i64 x0, .int .i64 y0, .int .i64 x1, .int .i64 y1, .int .i64 rt, .int .i64 ys, .int .i64 cs, .int .i64 at4, .slice A1 z1.length c1, .slice A2 z2.length c2, .slice A3 z3.length c3, .slice A4 z4.length c4] 30)).cell? ⟨w.heap.size, 5, none⟩ = some (.int .i64 ys) := by first | (simp; done) | go_simp
  have D6 : (w.alloc (.cells #[.int .i64 x0, .int .i64 y0, .int .i64 x1, .int .i64 y1, .int .i64 rt, .int .i64 ys, .int .i64 cs, .int .i64 at4, .slice A1 z1.length c1, .slice A2 z2.length c2, .slice A3 z3.length c3, .slice A4 z4.length c4] 30)).cell? ⟨w.heap.size, 6, none⟩ = some (.int .i64 cs) := by first | (simp; done) | go_simp
  have D7 : (w.alloc (.cells #[.int .i64 x0, .int .i64 y0, .int .i64 x1, .int .i64 y1, .int .i64 rt, .int .i64 ys, .int .i64 cs, .int .i64 at4, .slice A1 z1.length c1, .slice A2 z2.length c2, .slice A3 z3.length c3, .slice A4 z4.length c4] 30)).cell? ⟨w.heap.size, 7, none⟩ = some (.int .i64 at4) := by first | (simp; done) | go_simp
  have D8 : (w.alloc (.cells #[.int .i64 x0, .int .i64 y0, .int .i64 x1, .int .i64 y1, .int .i64 rt, .int .i64 ys, .int .i64 cs, .int .i64 at4, .slice A1 z1.length c1, .slice A2 z2.length c2, .slice A3 z3.length c3, .slice A4 z4.length c4] 30)).cell? ⟨w.heap.size, 8, none⟩ = some (.slice A1 z1.length c1) := by first | (simp; done) | go_simp
  have D9 : (w.alloc (.cells #[.int .i64 x0, .int .i64 y0, .int .i64 x1, .int .i64 y1, .int .i64 rt, .int .i64 ys, .int .i64 cs, .int .i64 at4, .slice A1 z1.length c1, .slice A2 z2.length c2, .slice A3 z3.length c3, .slice A4 z4.length c4] 30)).cell? ⟨w.heap.size, 9, none⟩ = some (.slice A2 z2.length c2) := by first | (simp; done) | go_simp
  have D10 : (w.alloc (.cells #[.int .i64 x0, .int .i64 y0, .int .i64 x1, .int .i64 y1, .int .i64 rt, .int .i64 ys, .int .i64 cs, .int .i64 at4, .slice A1 z1.length c1, .slice A2 z2.length c2, .slice A3 z3.length c3, .slice A4 z4.length c4] 30)).cell? ⟨w.heap.size, 10, none⟩ = some (.slice A3 z3.length c3) := by first | (simp; done) | go_simp
  have D11 : (w.alloc (.cells #[.int .i64 x0, .int .i64 y0, .int .i64 x1, .int .i64 y1, .int .i64 rt, .int .i64 ys, .int .i64 cs, .int .i64 at4, .slice A1 z1.length c1, .slice A2 z2.length c2, .slice A3 z3.length c3, .slice A4 z4.length c4] 30)).cell? ⟨w.heap.size, 11, none⟩ = some (.slice A4 z4.length c4) := by first | (simp; done) | go_simp
  have HR1 := Lib.hid (hr1.out.below hB)
  have HR2 := Lib.hid (hr2.out.below hB)
  have HR3 := Lib.hid (hr3.out.below hB)
  have HR4 := Lib.hid (hr4.out.below hB)
  go_enter Try.func9, Try.ntmps9
  go_wp2_with fail
  generalize w.alloc (.cells #[.int .i64 x0, .int .i64 y0, .int .i64 x1, .int .i64 y1, .int .i64 rt, .int .i64 ys, .int .i64 cs, .int .i64 at4, .slice A1 z1.length c1, .slice A2 z2.length c2, .slice A3 z3.length c3, .slice A4 z4.length c4] 30) = W0 at *
  go_wp2_with fail
  refine (fairF_any x0 y0 x1 y1 rt ys cs at4 A1 A2 A3 A4 c1 c2 c3 c4 z1 z2 z3 z4 false (by simp [hF.out]) _).mono ?_
  rintro e w1 ⟨rfl, hb1⟩
  replace D0 := cell_kept D0 hb1
  replace D1 := cell_kept D1 hb1
  replace D2 := cell_kept D2 hb1
  replace D3 := cell_kept D3 hb1
  replace D4 := cell_kept D4 hb1
  replace D5 := cell_kept D5 hb1
  replace D6 := cell_kept D6 hb1
  replace D7 := cell_kept D7 hb1
  replace D8 := cell_kept D8 hb1
  replace D9 := cell_kept D9 hb1
  replace D10 := cell_kept D10 hb1
  replace D11 := cell_kept D11 hb1
  replace HR1 := Lib.hid (HR1.out.below hb1)
  replace HR2 := Lib.hid (HR2.out.below hb1)
  replace HR3 := Lib.hid (HR3.out.below hb1)
  replace HR4 := Lib.hid (HR4.out.below hb1)
  replace hB := hB.trans (hb1.mono hB.size)
  clear hb1
  go_wp2
  go_ret
  exact ⟨by simp, hB⟩

set_option maxRecDepth 100000 in
set_option maxHeartbeats 2000000 in
theorem lawChroma_g1 (x0 y0 x1 y1 rt ys cs at4 : Int) (A1 A2 A3 A4 : Option Addr) (c1 c2 c3 c4 : Nat) (z1 z2 z3 z4 : List Int) (x y : Int) (w : World) (hr1 : Hid (Reads w A1 z1)) (hl1 : Small z1) (hn1 : Hid (A1 = none → c1 = 0)) (hr2 : Hid (Reads w A2 z2)) (hl2 : Small z2) (hn2 : Hid (A2 = none → c2 = 0)) (hr3 : Hid (Reads w A3 z3)) (hl3 : Small z3) (hn3 : Hid (A3 = none → c3 = 0)) (hr4 : Hid (Reads w A4 z4)) (hl4 : Small z4) (hn4 : Hid (A4 = none → c4 = 0)) (hF : Hid (FairF x0 y0 x1 y1 ys cs at4)) (hI : Hid (¬ (Insd x0 y0 x1 y1 x y))) :
    Calls Try.prog 9 #[.agg #[.int .i64 x0, .int .i64 y0, .int .i64 x1, .int .i64 y1, .int .i64 rt, .int .i64 ys, .int .i64 cs, .int .i64 at4, .slice A1 z1.length c1, .slice A2 z2.length c2, .slice A3 z3.length c3, .slice A4 z4.length c4], .int .i64 x, .int .i64 y] w fun e w' => e = .returned (.bool true) ∧ Below w.heap.size w w' := by
  have hB : Below w.heap.size w (w.alloc (.cells #[.int .i64 x0, .int .i64 y0, .int .i64 x1, .int .i64 y1, .int .i64 rt, .int .i64 ys, .int .i64 cs, .int .i64 at4, .slice A1 z1.length c1, .slice A2 z2.length c2, .slice A3 z3.length c3, .slice A4 z4.length c4] 30)) := (Below.refl _ _).alloc (Nat.le_refl _) _
  have D0 : (w.alloc (.cells #[.int .i64 x0, .int .i64 y0, .int .i64 x1, .int .i64 y1, .int .i64 rt, .int .i64 ys, .int .i64 cs, .int .i64 at4, .slice A1 z1.length c1, .slice A2 z2.length c2, .slice A3 z3.length c3, .slice A4 z4.length c4] 30)).cell? ⟨w.heap.size, 0, none⟩ = some (.int .i64 x0) := by first | (simp; done) | go_simp
  have D1 : (w.alloc (.cells #[.int .i64 x0, .int .i64 y0, .int .i64 x1, .int .i64 y1, .int .i64 rt, .int .i64 ys, .int .i64 cs, .int .i64 at4, .slice A1 z1.length c1, .slice A2 z2.length c2, .slice A3 z3.length c3, .slice A4 z4.length c4] 30)).cell? ⟨w.heap.size, 1, none⟩ = some (.int .i64 y0) := by first | (simp; done) | go_simp
  have D2 : (w.alloc (.cells #[.int .i64 x0, .int .i64 y0, .int .i64 x1, .int .i64 y1, .int .i64 rt, .int .i64 ys, .int .i64 cs, .int .i64 at4, .slice A1 z1.length c1, .slice A2 z2.length c2, .slice A3 z3.length c3, .slice A4 z4.length c4] 30)).cell? ⟨w.heap.size, 2, none⟩ = some (.int .i64 x1) := by first | (simp; done) | go_simp
  have D3 : (w.alloc (.cells #[.int .i64 x0, .int .i64 y0, .int .i64 x1, .int .i64 y1, .int .i64 rt, .int .i64 ys, .int .i64 cs, .int .i64 at4, .slice A1 z1.length c1, .slice A2 z2.length c2, .slice A3 z3.length c3, .slice A4 z4.length c4] 30)).cell? ⟨w.heap.size, 3, none⟩ = some (.int .i64 y1) := by first | (simp; done) | go_simp
  have D4 : (w.alloc (.cells #[.int .i64 x0, .int .i64 y0, .int .i64 x1, .int .i64 y1, .int .i64 rt, .int .i64 ys, .int .i64 cs, .int .i64 at4, .slice A1 z1.length c1, .slice A2 z2.length c2, .slice A3 z3.length c3, .slice A4 z4.length c4] 30)).cell? ⟨w.heap.size, 4, none⟩ = some (.int .i64 rt) := by first | (simp; done) | go_simp
  have D5 : (w.alloc (.cells #[.int .i64 x0, .int .i64 y0, .int .i64 x1, .int .i64 y1, .int .i64 rt, .int .i64 ys, .int .i64 cs, .int .i64 at4, .slice A1 z1.length c1, .slice A2 z2.length c2, .slice A3 z3.length c3, .slice A4 z4.length c4] 30)).cell? ⟨w.heap.size, 5, none⟩ = some (.int .i64 ys) := by first | (simp; done) | go_simp
  have D6 : (w.alloc (.cells #[.int .i64 x0, .int .i64 y0, .int .i64 x1, .int .i64 y1, .int .i64 rt, .int .i64 ys, .int .i64 cs, .int .i64 at4, .slice A1 z1.length c1, .slice A2 z2.length c2, .slice A3 z3.length c3, .slice A4 z4.length c4] 30)).cell? ⟨w.heap.size, 6, none⟩ = some (.int .i64 cs) := by first | (simp; done) | go_simp
  have D7 : (w.alloc (.cells #[.int .i64 x0, .int .i64 y0, .int .i64 x1, .int .i64 y1, .int .i64 rt, .int .i64 ys, .int .i64 cs, .int .i64 at4, .slice A1 z1.length c1, .slice A2 z2.length c2, .slice A3 z3.length c3, .slice A4 z4.length c4] 30)).cell? ⟨w.heap.size, 7, none⟩ = some (.int .i64 at4) := by first | (simp; done) | go_simp
  have D8 : (w.alloc (.cells #[.int .i64 x0, .int .i64 y0, .int .i64 x1, .int .i64 y1, .int .i64 rt, .int .i64 ys, .int .i64 cs, .int .i64 at4, .slice A1 z1.length c1, .slice A2 z2.length c2, .slice A3 z3.length c3, .slice A4 z4.length c4] 30)).cell? ⟨w.heap.size, 8, none⟩ = some (.slice A1 z1.length c1) := by first | (simp; done) | go_simp
  have D9 : (w.alloc (.cells #[.int .i64 x0, .int .i64 y0, .int .i64 x1, .int .i64 y1, .int .i64 rt, .int .i64 ys, .int .i64 cs, .int .i64 at4, .slice A1 z1.length c1, .slice A2 z2.length c2, .slice A3 z3.length c3, .slice A4 z4.length c4] 30)).cell? ⟨w.heap.size, 9, none⟩ = some (.slice A2 z2.length c2) := by first | (simp; done) | go_simp
  have D10 : (w.alloc (.cells #[.int .i64 x0, .int .i64 y0, .int .i64 x1, .int .i64 y1, .int .i64 rt, .int .i64 ys, .int .i64 cs, .int .i64 at4, .slice A1 z1.length c1, .slice A2 z2.length c2, .slice A3 z3.length c3, .slice A4 z4.length c4] 30)).cell? ⟨w.heap.size, 10, none⟩ = some (.slice A3 z3.length c3) := by first | (simp; done) | go_simp
  have D11 : (w.alloc (.cells #[.int .i64 x0, .int .i64 y0, .int .i64 x1, .int .i64 y1, .int .i64 rt, .int .i64 ys, .int .i64 cs, .int .i64 at4, .slice A1 z1.length c1, .slice A2 z2.length c2, .slice A3 z3.length c3, .slice A4 z4.length c4] 30)).cell? ⟨w.heap.size, 11, none⟩ = some (.slice A4 z4.length c4) := by first | (simp; done) | go_simp
  have HR1 := Lib.hid (hr1.out.below hB)
  have HR2 := Lib.hid (hr2.out.below hB)
  have HR3 := Lib.hid (hr3.out.below hB)
  have HR4 := Lib.hid (hr4.out.below hB)
  go_enter Try.func9, Try.ntmps9
  go_wp2_with fail
  generalize w.alloc (.cells #[.int .i64 x0, .int .i64 y0, .int .i64 x1, .int .i64 y1, .int .i64 rt, .int .i64 ys, .int .i64 cs, .int .i64 at4, .slice A1 z1.length c1, .slice A2 z2.length c2, .slice A3 z3.length c3, .slice A4 z4.length c4] 30) = W0 at *
  go_wp2_with fail
  refine (fairF_any x0 y0 x1 y1 rt ys cs at4 A1 A2 A3 A4 c1 c2 c3 c4 z1 z2 z3 z4 true (by simp [hF.out]) _).mono ?_
  rintro e w1 ⟨rfl, hb1⟩
  replace D0 := cell_kept D0 hb1
  replace D1 := cell_kept D1 hb1
  replace D2 := cell_kept D2 hb1
  replace D3 := cell_kept D3 hb1
  replace D4 := cell_kept D4 hb1
  replace D5 := cell_kept D5 hb1
  replace D6 := cell_kept D6 hb1
  replace D7 := cell_kept D7 hb1
  replace D8 := cell_kept D8 hb1
  replace D9 := cell_kept D9 hb1
  replace D10 := cell_kept D10 hb1
  replace D11 := cell_kept D11 hb1
  replace HR1 := Lib.hid (HR1.out.below hb1)
  replace HR2 := Lib.hid (HR2.out.below hb1)
  replace HR3 := Lib.hid (HR3.out.below hb1)
  replace HR4 := Lib.hid (HR4.out.below hb1)
  replace hB := hB.trans (hb1.mono hB.size)
  clear hb1
  go_wp2_with fail
  refine (inside_any x0 y0 x1 y1 x y false (by simp [hI.out]) _).mono ?_
  rintro e w2 ⟨rfl, hb2⟩
  replace D0 := cell_kept D0 hb2
  replace D1 := cell_kept D1 hb2
  replace D2 := cell_kept D2 hb2
  replace D3 := cell_kept D3 hb2
  replace D4 := cell_kept D4 hb2
  replace D5 := cell_kept D5 hb2
  replace D6 := cell_kept D6 hb2
  replace D7 := cell_kept D7 hb2
  replace D8 := cell_kept D8 hb2
  replace D9 := cell_kept D9 hb2
  replace D10 := cell_kept D10 hb2
  replace D11 := cell_kept D11 hb2
  replace HR1 := Lib.hid (HR1.out.below hb2)
  replace HR2 := Lib.hid (HR2.out.below hb2)
  replace HR3 := Lib.hid (HR3.out.below hb2)
  replace HR4 := Lib.hid (HR4.out.below hb2)
  replace hB := hB.trans (hb2.mono hB.size)
  clear hb2
  go_wp2
  go_ret
  exact ⟨by simp, hB⟩

set_option maxRecDepth 100000 in
set_option maxHeartbeats 2000000 in
theorem lawChroma_g2 (x0 y0 x1 y1 rt ys cs at4 : Int) (A1 A2 A3 A4 : Option Addr) (c1 c2 c3 c4 : Nat) (z1 z2 z3 z4 : List Int) (x y : Int) (w : World) (hr1 : Hid (Reads w A1 z1)) (hl1 : Small z1) (hn1 : Hid (A1 = none → c1 = 0)) (hr2 : Hid (Reads w A2 z2)) (hl2 : Small z2) (hn2 : Hid (A2 = none → c2 = 0)) (hr3 : Hid (Reads w A3 z3)) (hl3 : Small z3) (hn3 : Hid (A3 = none → c3 = 0)) (hr4 : Hid (Reads w A4 z4)) (hl4 : Small z4) (hn4 : Hid (A4 = none → c4 = 0)) (hF : Hid (FairF x0 y0 x1 y1 ys cs at4)) (hI : Hid (Insd x0 y0 x1 y1 x y)) (hQ : Hid (¬ (0 ≤ rt ∧ rt ≤ 5))) :
    Calls Try.prog 9 #[.agg #[.int .i64 x0, .int .i64 y0, .int .i64 x1, .int .i64 y1, .int .i64 rt, .int .i64 ys, .int .i64 cs, .int .i64 at4, .slice A1 z1.length c1, .slice A2 z2.length c2, .slice A3 z3.length c3, .slice A4 z4.length c4], .int .i64 x, .int .i64 y] w fun e w' => e = .returned (.bool true) ∧ Below w.heap.size w w' := by
  have hB : Below w.heap.size w (w.alloc (.cells #[.int .i64 x0, .int .i64 y0, .int .i64 x1, .int .i64 y1, .int .i64 rt, .int .i64 ys, .int .i64 cs, .int .i64 at4, .slice A1 z1.length c1, .slice A2 z2.length c2, .slice A3 z3.length c3, .slice A4 z4.length c4] 30)) := (Below.refl _ _).alloc (Nat.le_refl _) _
  have D0 : (w.alloc (.cells #[.int .i64 x0, .int .i64 y0, .int .i64 x1, .int .i64 y1, .int .i64 rt, .int .i64 ys, .int .i64 cs, .int .i64 at4, .slice A1 z1.length c1, .slice A2 z2.length c2, .slice A3 z3.length c3, .slice A4 z4.length c4] 30)).cell? ⟨w.heap.size, 0, none⟩ = some (.int .i64 x0) := by first | (simp; done) | go_simp
  have D1 : (w.alloc (.cells #[.int .i64 x0, .int .i64 y0, .int .i64 x1, .int .i64 y1, .int .i64 rt, .int .i64 ys, .int .i64 cs, .int .i64 at4, .slice A1 z1.length c1, .slice A2 z2.length c2, .slice A3 z3.length c3, .slice A4 z4.length c4] 30)).cell? ⟨w.heap.size, 1, none⟩ = some (.int .i64 y0) := by first | (simp; done) | go_simp
  have D2 : (w.alloc (.cells #[.int .i64 x0, .int .i64 y0, .int .i64 x1, .int .i64 y1, .int .i64 rt, .int .i64 ys, .int .i64 cs, .int .i64 at4, .slice A1 z1.length c1, .slice A2 z2.length c2, .slice A3 z3.length c3, .slice A4 z4.length c4] 30)).cell? ⟨w.heap.size, 2, none⟩ = some (.int .i64 x1) := by first | (simp; done) | go_simp
  have D3 : (w.alloc (.cells #[.int .i64 x0, .int .i64 y0, .int .i64 x1, .int .i64 y1, .int .i64 rt, .int .i64 ys, .int .i64 cs, .int .i64 at4, .slice A1 z1.length c1, .slice A2 z2.length c2, .slice A3 z3.length c3, .slice A4 z4.length c4] 30)).cell? ⟨w.heap.size, 3, none⟩ = some (.int .i64 y1) := by first | (simp; done) | go_simp
  have D4 : (w.alloc (.cells #[.int .i64 x0, .int .i64 y0, .int .i64 x1, .int .i64 y1, .int .i64 rt, .int .i64 ys, .int .i64 cs, .int .i64 at4, .slice A1 z1.length c1, .slice A2 z2.length c2, .slice A3 z3.length c3, .slice A4 z4.length c4] 30)).cell? ⟨w.heap.size, 4, none⟩ = some (.int .i64 rt) := by first | (simp; done) | go_simp
  have D5 : (w.alloc (.cells #[.int .i64 x0, .int .i64 y0, .int .i64 x1, .int .i64 y1, .int .i64 rt, .int .i64 ys, .int .i64 cs, .int .i64 at4, .slice A1 z1.length c1, .slice A2 z2.length c2, .slice A3 z3.length c3, .slice A4 z4.length c4] 30)).cell? ⟨w.heap.size, 5, none⟩ = some (.int .i64 ys) := by first | (simp; done) | go_simp
  have D6 : (w.alloc (.cells #[.int .i64 x0, .int .i64 y0, .int .i64 x1, .int .i64 y1, .int .i64 rt, .int .i64 ys, .int .i64 cs, .int .i64 at4, .slice A1 z1.length c1, .slice A2 z2.length c2, .slice A3 z3.length c3, .slice A4 z4.length c4] 30)).cell? ⟨w.heap.size, 6, none⟩ = some (.int .i64 cs) := by first | (simp; done) | go_simp
  have D7 : (w.alloc (.cells #[.int .i64 x0, .int .i64 y0, .int .i64 x1, .int .i64 y1, .int .i64 rt, .int .i64 ys, .int .i64 cs, .int .i64 at4, .slice A1 z1.length c1, .slice A2 z2.length c2, .slice A3 z3.length c3, .slice A4 z4.length c4] 30)).cell? ⟨w.heap.size, 7, none⟩ = some (.int .i64 at4) := by first | (simp; done) | go_simp
  have D8 : (w.alloc (.cells #[.int .i64 x0, .int .i64 y0, .int .i64 x1, .int .i64 y1, .int .i64 rt, .int .i64 ys, .int .i64 cs, .int .i64 at4, .slice A1 z1.length c1, .slice A2 z2.length c2, .slice A3 z3.length c3, .slice A4 z4.length c4] 30)).cell? ⟨w.heap.size, 8, none⟩ = some (.slice A1 z1.length c1) := by first | (simp; done) | go_simp
  have D9 : (w.alloc (.cells #[.int .i64 x0, .int .i64 y0, .int .i64 x1, .int .i64 y1, .int .i64 rt, .int .i64 ys, .int .i64 cs, .int .i64 at4, .slice A1 z1.length c1, .slice A2 z2.length c2, .slice A3 z3.length c3, .slice A4 z4.length c4] 30)).cell? ⟨w.heap.size, 9, none⟩ = some (.slice A2 z2.length c2) := by first | (simp; done) | go_simp
  have D10 : (w.alloc (.cells #[.int .i64 x0, .int .i64 y0, .int .i64 x1, .int .i64 y1, .int .i64 rt, .int .i64 ys, .int .i64 cs, .int .i64 at4, .slice A1 z1.length c1, .slice A2 z2.length c2, .slice A3 z3.length c3, .slice A4 z4.length c4] 30)).cell? ⟨w.heap.size, 10, none⟩ = some (.slice A3 z3.length c3) := by first | (simp; done) | go_simp
  have D11 : (w.alloc (.cells #[.int .i64 x0, .int .i64 y0, .int .i64 x1, .int .i64 y1, .int .i64 rt, .int .i64 ys, .int .i64 cs, .int .i64 at4, .slice A1 z1.length c1, .slice A2 z2.length c2, .slice A3 z3.length c3, .slice A4 z4.length c4] 30)).cell? ⟨w.heap.size, 11, none⟩ = some (.slice A4 z4.length c4) := by first | (simp; done) | go_simp
  have HR1 := Lib.hid (hr1.out.below hB)
  have HR2 := Lib.hid (hr2.out.below hB)
  have HR3 := Lib.hid (hr3.out.below hB)
  have HR4 := Lib.hid (hr4.out.below hB)
  go_enter Try.func9, Try.ntmps9
  go_wp2_with fail
  generalize w.alloc (.cells #[.int .i64 x0, .int .i64 y0, .int .i64 x1, .int .i64 y1, .int .i64 rt, .int .i64 ys, .int .i64 cs, .int .i64 at4, .slice A1 z1.length c1, .slice A2 z2.length c2, .slice A3 z3.length c3, .slice A4 z4.length c4] 30) = W0 at *
  go_wp2_with fail
  refine (fairF_any x0 y0 x1 y1 rt ys cs at4 A1 A2 A3 A4 c1 c2 c3 c4 z1 z2 z3 z4 true (by simp [hF.out]) _).mono ?_
  rintro e w1 ⟨rfl, hb1⟩
  replace D0 := cell_kept D0 hb1
  replace D1 := cell_kept D1 hb1
  replace D2 := cell_kept D2 hb1
  replace D3 := cell_kept D3 hb1
  replace D4 := cell_kept D4 hb1
  replace D5 := cell_kept D5 hb1
  replace D6 := cell_kept D6 hb1
  replace D7 := cell_kept D7 hb1
  replace D8 := cell_kept D8 hb1
  replace D9 := cell_kept D9 hb1
  replace D10 := cell_kept D10 hb1
  replace D11 := cell_kept D11 hb1
  replace HR1 := Lib.hid (HR1.out.below hb1)
  replace HR2 := Lib.hid (HR2.out.below hb1)
  replace HR3 := Lib.hid (HR3.out.below hb1)
  replace HR4 := Lib.hid (HR4.out.below hb1)
  replace hB := hB.trans (hb1.mono hB.size)
  clear hb1
  go_wp2_with fail
  refine (inside_any x0 y0 x1 y1 x y true (by simp [hI.out]) _).mono ?_
  rintro e w2 ⟨rfl, hb2⟩
  replace D0 := cell_kept D0 hb2
  replace D1 := cell_kept D1 hb2
  replace D2 := cell_kept D2 hb2
  replace D3 := cell_kept D3 hb2
  replace D4 := cell_kept D4 hb2
  replace D5 := cell_kept D5 hb2
  replace D6 := cell_kept D6 hb2
  replace D7 := cell_kept D7 hb2
  replace D8 := cell_kept D8 hb2
  replace D9 := cell_kept D9 hb2
  replace D10 := cell_kept D10 hb2
  replace D11 := cell_kept D11 hb2
  replace HR1 := Lib.hid (HR1.out.below hb2)
  replace HR2 := Lib.hid (HR2.out.below hb2)
  replace HR3 := Lib.hid (HR3.out.below hb2)
  replace HR4 := Lib.hid (HR4.out.below hb2)
  replace hB := hB.trans (hb2.mono hB.size)
  clear hb2
  go_wp2_with fail
  refine (ratio_any rt false (by have := hQ.out; simp only [this]; simp) _).mono ?_
  rintro e w' ⟨rfl, rfl⟩
  go_wp2
  go_ret
  exact ⟨by simp, hB⟩

set_option maxRecDepth 100000 in
set_option maxHeartbeats 2000000 in
theorem lawChroma_g3 (x0 y0 x1 y1 rt ys cs at4 : Int) (A1 A2 A3 A4 : Option Addr) (c1 c2 c3 c4 : Nat) (z1 z2 z3 z4 : List Int) (x y : Int) (w : World) (hr1 : Hid (Reads w A1 z1)) (hl1 : Small z1) (hn1 : Hid (A1 = none → c1 = 0)) (hr2 : Hid (Reads w A2 z2)) (hl2 : Small z2) (hn2 : Hid (A2 = none → c2 = 0)) (hr3 : Hid (Reads w A3 z3)) (hl3 : Small z3) (hn3 : Hid (A3 = none → c3 = 0)) (hr4 : Hid (Reads w A4 z4)) (hl4 : Small z4) (hn4 : Hid (A4 = none → c4 = 0)) (hF : Hid (FairF x0 y0 x1 y1 ys cs at4)) (hI : Hid (Insd x0 y0 x1 y1 x y)) (hQ : Hid (0 ≤ rt ∧ rt ≤ 5)) (m1 : x0 < 0) :
    Calls Try.prog 9 #[.agg #[.int .i64 x0, .int .i64 y0, .int .i64 x1, .int .i64 y1, .int .i64 rt, .int .i64 ys, .int .i64 cs, .int .i64 at4, .slice A1 z1.length c1, .slice A2 z2.length c2, .slice A3 z3.length c3, .slice A4 z4.length c4], .int .i64 x, .int .i64 y] w fun e w' => e = .returned (.bool true) ∧ Below w.heap.size w w' := by
  have hB : Below w.heap.size w (w.alloc (.cells #[.int .i64 x0, .int .i64 y0, .int .i64 x1, .int .i64 y1, .int .i64 rt, .int .i64 ys, .int .i64 cs, .int .i64 at4, .slice A1 z1.length c1, .slice A2 z2.length c2, .slice A3 z3.length c3, .slice A4 z4.length c4] 30)) := (Below.refl _ _).alloc (Nat.le_refl _) _
  have D0 : (w.alloc (.cells #[.int .i64 x0, .int .i64 y0, .int .i64 x1, .int .i64 y1, .int .i64 rt, .int .i64 ys, .int .i64 cs, .int .i64 at4, .slice A1 z1.length c1, .slice A2 z2.length c2, .slice A3 z3.length c3, .slice A4 z4.length c4] 30)).cell? ⟨w.heap.size, 0, none⟩ = some (.int .i64 x0) := by first | (simp; done) | go_simp
  have D1 : (w.alloc (.cells #[.int .i64 x0, .int .i64 y0, .int .i64 x1, .int .i64 y1, .int .i64 rt, .int .i64 ys, .int .i64 cs, .int .i64 at4, .slice A1 z1.length c1, .slice A2 z2.length c2, .slice A3 z3.length c3, .slice A4 z4.length c4] 30)).cell? ⟨w.heap.size, 1, none⟩ = some (.int .i64 y0) := by first | (simp; done) | go_simp
  have D2 : (w.alloc (.cells #[.int .i64 x0, .int .i64 y0, .int .i64 x1, .int .i64 y1, .int .i64 rt, .int .i64 ys, .int .i64 cs, .int .i64 at4, .slice A1 z1.length c1, .slice A2 z2.length c2, .slice A3 z3.length c3, .slice A4 z4.length c4] 30)).cell? ⟨w.heap.size, 2, none⟩ = some (.int .i64 x1) := by first | (simp; done) | go_simp
  have D3 : (w.alloc (.cells #[.int .i64 x0, .int .i64 y0, .int .i64 x1, .int .i64 y1, .int .i64 rt, .int .i64 ys, .int .i64 cs, .int .i64 at4, .slice A1 z1.length c1, .slice A2 z2.length c2, .slice A3 z3.length c3, .slice A4 z4.length c4] 30)).cell? ⟨w.heap.size, 3, none⟩ = some (.int .i64 y1) := by first | (simp; done) | go_simp
  have D4 : (w.alloc (.cells #[.int .i64 x0, .int .i64 y0, .int .i64 x1, .int .i64 y1, .int .i64 rt, .int .i64 ys, .int .i64 cs, .int .i64 at4, .slice A1 z1.length c1, .slice A2 z2.length c2, .slice A3 z3.length c3, .slice A4 z4.length c4] 30)).cell? ⟨w.heap.size, 4, none⟩ = some (.int .i64 rt) := by first | (simp; done) | go_simp
  have D5 : (w.alloc (.cells #[.int .i64 x0, .int .i64 y0, .int .i64 x1, .int .i64 y1, .int .i64 rt, .int .i64 ys, .int .i64 cs, .int .i64 at4, .slice A1 z1.length c1, .slice A2 z2.length c2, .slice A3 z3.length c3, .slice A4 z4.length c4] 30)).cell? ⟨w.heap.size, 5, none⟩ = some (.int .i64 ys) := by first | (simp; done) | go_simp
  have D6 : (w.alloc (.cells #[.int .i64 x0, .int .i64 y0, .int .i64 x1, .int .i64 y1, .int .i64 rt, .int .i64 ys, .int .i64 cs, .int .i64 at4, .slice A1 z1.length c1, .slice A2 z2.length c2, .slice A3 z3.length c3, .slice A4 z4.length c4] 30)).cell? ⟨w.heap.size, 6, none⟩ = some (.int .i64 cs) := by first | (simp; done) | go_simp
  have D7 : (w.alloc (.cells #[.int .i64 x0, .int .i64 y0, .int .i64 x1, .int .i64 y1, .int .i64 rt, .int .i64 ys, .int .i64 cs, .int .i64 at4, .slice A1 z1.length c1, .slice A2 z2.length c2, .slice A3 z3.length c3, .slice A4 z4.length c4] 30)).cell? ⟨w.heap.size, 7, none⟩ = some (.int .i64 at4) := by first | (simp; done) | go_simp
  have D8 : (w.alloc (.cells #[.int .i64 x0, .int .i64 y0, .int .i64 x1, .int .i64 y1, .int .i64 rt, .int .i64 ys, .int .i64 cs, .int .i64 at4, .slice A1 z1.length c1, .slice A2 z2.length c2, .slice A3 z3.length c3, .slice A4 z4.length c4] 30)).cell? ⟨w.heap.size, 8, none⟩ = some (.slice A1 z1.length c1) := by first | (simp; done) | go_simp
  have D9 : (w.alloc (.cells #[.int .i64 x0, .int .i64 y0, .int .i64 x1, .int .i64 y1, .int .i64 rt, .int .i64 ys, .int .i64 cs, .int .i64 at4, .slice A1 z1.length c1, .slice A2 z2.length c2, .slice A3 z3.length c3, .slice A4 z4.length c4] 30)).cell? ⟨w.heap.size, 9, none⟩ = some (.slice A2 z2.length c2) := by first | (simp; done) | go_simp
  have D10 : (w.alloc (.cells #[.int .i64 x0, .int .i64 y0, .int .i64 x1, .int .i64 y1, .int .i64 rt, .int .i64 ys, .int .i64 cs, .int .i64 at4, .slice A1 z1.length c1, .slice A2 z2.length c2, .slice A3 z3.length c3, .slice A4 z4.length c4] 30)).cell? ⟨w.heap.size, 10, none⟩ = some (.slice A3 z3.length c3) := by first | (simp; done) | go_simp
  have D11 : (w.alloc (.cells #[.int .i64 x0, .int .i64 y0, .int .i64 x1, .int .i64 y1, .int .i64 rt, .int .i64 ys, .int .i64 cs, .int .i64 at4, .slice A1 z1.length c1, .slice A2 z2.length c2, .slice A3 z3.length c3, .slice A4 z4.length c4] 30)).cell? ⟨w.heap.size, 11, none⟩ = some (.slice A4 z4.length c4) := by first | (simp; done) | go_simp
  have HR1 := Lib.hid (hr1.out.below hB)
  have HR2 := Lib.hid (hr2.out.below hB)
  have HR3 := Lib.hid (hr3.out.below hB)
  have HR4 := Lib.hid (hr4.out.below hB)
  go_enter Try.func9, Try.ntmps9
  go_wp2_with fail
  generalize w.alloc (.cells #[.int .i64 x0, .int .i64 y0, .int .i64 x1, .int .i64 y1, .int .i64 rt, .int .i64 ys, .int .i64 cs, .int .i64 at4, .slice A1 z1.length c1, .slice A2 z2.length c2, .slice A3 z3.length c3, .slice A4 z4.length c4] 30) = W0 at *
  go_wp2_with fail
  refine (fairF_any x0 y0 x1 y1 rt ys cs at4 A1 A2 A3 A4 c1 c2 c3 c4 z1 z2 z3 z4 true (by simp [hF.out]) _).mono ?_
  rintro e w1 ⟨rfl, hb1⟩
  replace D0 := cell_kept D0 hb1
  replace D1 := cell_kept D1 hb1
  replace D2 := cell_kept D2 hb1
  replace D3 := cell_kept D3 hb1
  replace D4 := cell_kept D4 hb1
  replace D5 := cell_kept D5 hb1
  replace D6 := cell_kept D6 hb1
  replace D7 := cell_kept D7 hb1
  replace D8 := cell_kept D8 hb1
  replace D9 := cell_kept D9 hb1
  replace D10 := cell_kept D10 hb1
  replace D11 := cell_kept D11 hb1
  replace HR1 := Lib.hid (HR1.out.below hb1)
  replace HR2 := Lib.hid (HR2.out.below hb1)
  replace HR3 := Lib.hid (HR3.out.below hb1)
  replace HR4 := Lib.hid (HR4.out.below hb1)
  replace hB := hB.trans (hb1.mono hB.size)
  clear hb1
  go_wp2_with fail
  refine (inside_any x0 y0 x1 y1 x y true (by simp [hI.out]) _).mono ?_
  rintro e w2 ⟨rfl, hb2⟩
  replace D0 := cell_kept D0 hb2
  replace D1 := cell_kept D1 hb2
  replace D2 := cell_kept D2 hb2
  replace D3 := cell_kept D3 hb2
  replace D4 := cell_kept D4 hb2
  replace D5 := cell_kept D5 hb2
  replace D6 := cell_kept D6 hb2
  replace D7 := cell_kept D7 hb2
  replace D8 := cell_kept D8 hb2
  replace D9 := cell_kept D9 hb2
  replace D10 := cell_kept D10 hb2
  replace D11 := cell_kept D11 hb2
  replace HR1 := Lib.hid (HR1.out.below hb2)
  replace HR2 := Lib.hid (HR2.out.below hb2)
  replace HR3 := Lib.hid (HR3.out.below hb2)
  replace HR4 := Lib.hid (HR4.out.below hb2)
  replace hB := hB.trans (hb2.mono hB.size)
  clear hb2
  go_wp2_with fail
  refine (ratio_any rt true (by have := hQ.out; simp only [this]; simp) _).mono ?_
  rintro e w' ⟨rfl, rfl⟩
  go_wp2
  go_ret
  exact ⟨by simp, hB⟩

set_option maxRecDepth 100000 in
set_option maxHeartbeats 2000000 in
theorem lawChroma_g4 (x0 y0 x1 y1 rt ys cs at4 : Int) (A1 A2 A3 A4 : Option Addr) (c1 c2 c3 c4 : Nat) (z1 z2 z3 z4 : List Int) (x y : Int) (w : World) (hr1 : Hid (Reads w A1 z1)) (hl1 : Small z1) (hn1 : Hid (A1 = none → c1 = 0)) (hr2 : Hid (Reads w A2 z2)) (hl2 : Small z2) (hn2 : Hid (A2 = none → c2 = 0)) (hr3 : Hid (Reads w A3 z3)) (hl3 : Small z3) (hn3 : Hid (A3 = none → c3 = 0)) (hr4 : Hid (Reads w A4 z4)) (hl4 : Small z4) (hn4 : Hid (A4 = none → c4 = 0)) (hF : Hid (FairF x0 y0 x1 y1 ys cs at4)) (hI : Hid (Insd x0 y0 x1 y1 x y)) (hQ : Hid (0 ≤ rt ∧ rt ≤ 5)) (m1 : 0 ≤ x0) (m2 : y0 < 0) :
    Calls Try.prog 9 #[.agg #[.int .i64 x0, .int .i64 y0, .int .i64 x1, .int .i64 y1, .int .i64 rt, .int .i64 ys, .int .i64 cs, .int .i64 at4, .slice A1 z1.length c1, .slice A2 z2.length c2, .slice A3 z3.length c3, .slice A4 z4.length c4], .int .i64 x, .int .i64 y] w fun e w' => e = .returned (.bool true) ∧ Below w.heap.size w w' := by
  have hB : Below w.heap.size w (w.alloc (.cells #[.int .i64 x0, .int .i64 y0, .int .i64 x1, .int .i64 y1, .int .i64 rt, .int .i64 ys, .int .i64 cs, .int .i64 at4, .slice A1 z1.length c1, .slice A2 z2.length c2, .slice A3 z3.length c3, .slice A4 z4.length c4] 30)) := (Below.refl _ _).alloc (Nat.le_refl _) _
  have D0 : (w.alloc (.cells #[.int .i64 x0, .int .i64 y0, .int .i64 x1, .int .i64 y1, .int .i64 rt, .int .i64 ys, .int .i64 cs, .int .i64 at4, .slice A1 z1.length c1, .slice A2 z2.length c2, .slice A3 z3.length c3, .slice A4 z4.length c4] 30)).cell? ⟨w.heap.size, 0, none⟩ = some (.int .i64 x0) := by first | (simp; done) | go_simp
  have D1 : (w.alloc (.cells #[.int .i64 x0, .int .i64 y0, .int .i64 x1, .int .i64 y1, .int .i64 rt, .int .i64 ys, .int .i64 cs, .int .i64 at4, .slice A1 z1.length c1, .slice A2 z2.length c2, .slice A3 z3.length c3, .slice A4 z4.length c4] 30)).cell? ⟨w.heap.size, 1, none⟩ = some (.int .i64 y0) := by first | (simp; done) | go_simp
  have D2 : (w.alloc (.cells #[.int .i64 x0, .int .i64 y0, .int .i64 x1, .int .i64 y1, .int .i64 rt, .int .i64 ys, .int .i64 cs, .int .i64 at4, .slice A1 z1.length c1, .slice A2 z2.length c2, .slice A3 z3.length c3, .slice A4 z4.length c4] 30)).cell? ⟨w.heap.size, 2, none⟩ = some (.int .i64 x1) := by first | (simp; done) | go_simp
  have D3 : (w.alloc (.cells #[.int .i64 x0, .int .i64 y0, .int .i64 x1, .int .i64 y1, .int .i64 rt, .int .i64 ys, .int .i64 cs, .int .i64 at4, .slice A1 z1.length c1, .slice A2 z2.length c2, .slice A3 z3.length c3, .slice A4 z4.length c4] 30)).cell? ⟨w.heap.size, 3, none⟩ = some (.int .i64 y1) := by first | (simp; done) | go_simp
  have D4 : (w.alloc (.cells #[.int .i64 x0, .int .i64 y0, .int .i64 x1, .int .i64 y1, .int .i64 rt, .int .i64 ys, .int .i64 cs, .int .i64 at4, .slice A1 z1.length c1, .slice A2 z2.length c2, .slice A3 z3.length c3, .slice A4 z4.length c4] 30)).cell? ⟨w.heap.size, 4, none⟩ = some (.int .i64 rt) := by first | (simp; done) | go_simp
  have D5 : (w.alloc (.cells #[.int .i64 x0, .int .i64 y0, .int .i64 x1, .int .i64 y1, .int .i64 rt, .int .i64 ys, .int .i64 cs, .int .i64 at4, .slice A1 z1.length c1, .slice A2 z2.length c2, .slice A3 z3.length c3, .slice A4 z4.length c4] 30)).cell? ⟨w.heap.size, 5, none⟩ = some (.int .i64 ys) := by first | (simp; done) | go_simp
  have D6 : (w.alloc (.cells #[.int .i64 x0, .int .i64 y0, .int .i64 x1, .int .i64 y1, .int .i64 rt, .int .i64 ys, .int .i64 cs, .int .i64 at4, .slice A1 z1.length c1, .slice A2 z2.length c2, .slice A3 z3.length c3, .slice A4 z4.length c4] 30)).cell? ⟨w.heap.size, 6, none⟩ = some (.int .i64 cs) := by first | (simp; done) | go_simp
  have D7 : (w.alloc (.cells #[.int .i64 x0, .int .i64 y0, .int .i64 x1, .int .i64 y1, .int .i64 rt, .int .i64 ys, .int .i64 cs, .int .i64 at4, .slice A1 z1.length c1, .slice A2 z2.length c2, .slice A3 z3.length c3, .slice A4 z4.length c4] 30)).cell? ⟨w.heap.size, 7, none⟩ = some (.int .i64 at4) := by first | (simp; done) | go_simp
  have D8 : (w.alloc (.cells #[.int .i64 x0, .int .i64 y0, .int .i64 x1, .int .i64 y1, .int .i64 rt, .int .i64 ys, .int .i64 cs, .int .i64 at4, .slice A1 z1.length c1, .slice A2 z2.length c2, .slice A3 z3.length c3, .slice A4 z4.length c4] 30)).cell? ⟨w.heap.size, 8, none⟩ = some (.slice A1 z1.length c1) := by first | (simp; done) | go_simp
  have D9 : (w.alloc (.cells #[.int .i64 x0, .int .i64 y0, .int .i64 x1, .int .i64 y1, .int .i64 rt, .int .i64 ys, .int .i64 cs, .int .i64 at4, .slice A1 z1.length c1, .slice A2 z2.length c2, .slice A3 z3.length c3, .slice A4 z4.length c4] 30)).cell? ⟨w.heap.size, 9, none⟩ = some (.slice A2 z2.length c2) := by first | (simp; done) | go_simp
  have D10 : (w.alloc (.cells #[.int .i64 x0, .int .i64 y0, .int .i64 x1, .int .i64 y1, .int .i64 rt, .int .i64 ys, .int .i64 cs, .int .i64 at4, .slice A1 z1.length c1, .slice A2 z2.length c2, .slice A3 z3.length c3, .slice A4 z4.length c4] 30)).cell? ⟨w.heap.size, 10, none⟩ = some (.slice A3 z3.length c3) := by first | (simp; done) | go_simp
  have D11 : (w.alloc (.cells #[.int .i64 x0, .int .i64 y0, .int .i64 x1, .int .i64 y1, .int .i64 rt, .int .i64 ys, .int .i64 cs, .int .i64 at4, .slice A1 z1.length c1, .slice A2 z2.length c2, .slice A3 z3.length c3, .slice A4 z4.length c4] 30)).cell? ⟨w.heap.size, 11, none⟩ = some (.slice A4 z4.length c4) := by first | (simp; done) | go_simp
  have HR1 := Lib.hid (hr1.out.below hB)
  have HR2 := Lib.hid (hr2.out.below hB)
  have HR3 := Lib.hid (hr3.out.below hB)
  have HR4 := Lib.hid (hr4.out.below hB)
  go_enter Try.func9, Try.ntmps9
  go_wp2_with fail
  generalize w.alloc (.cells #[.int .i64 x0, .int .i64 y0, .int .i64 x1, .int .i64 y1, .int .i64 rt, .int .i64 ys, .int .i64 cs, .int .i64 at4, .slice A1 z1.length c1, .slice A2 z2.length c2, .slice A3 z3.length c3, .slice A4 z4.length c4] 30) = W0 at *
  go_wp2_with fail
  refine (fairF_any x0 y0 x1 y1 rt ys cs at4 A1 A2 A3 A4 c1 c2 c3 c4 z1 z2 z3 z4 true (by simp [hF.out]) _).mono ?_
  rintro e w1 ⟨rfl, hb1⟩
  replace D0 := cell_kept D0 hb1
  replace D1 := cell_kept D1 hb1
  replace D2 := cell_kept D2 hb1
  replace D3 := cell_kept D3 hb1
  replace D4 := cell_kept D4 hb1
  replace D5 := cell_kept D5 hb1
  replace D6 := cell_kept D6 hb1
  replace D7 := cell_kept D7 hb1
  replace D8 := cell_kept D8 hb1
  replace D9 := cell_kept D9 hb1
  replace D10 := cell_kept D10 hb1
  replace D11 := cell_kept D11 hb1
  replace HR1 := Lib.hid (HR1.out.below hb1)
  replace HR2 := Lib.hid (HR2.out.below hb1)
  replace HR3 := Lib.hid (HR3.out.below hb1)
  replace HR4 := Lib.hid (HR4.out.below hb1)
  replace hB := hB.trans (hb1.mono hB.size)
  clear hb1
  go_wp2_with fail
  refine (inside_any x0 y0 x1 y1 x y true (by simp [hI.out]) _).mono ?_
  rintro e w2 ⟨rfl, hb2⟩
  replace D0 := cell_kept D0 hb2
  replace D1 := cell_kept D1 hb2
  replace D2 := cell_kept D2 hb2
  replace D3 := cell_kept D3 hb2
  replace D4 := cell_kept D4 hb2
  replace D5 := cell_kept D5 hb2
  replace D6 := cell_kept D6 hb2
  replace D7 := cell_kept D7 hb2
  replace D8 := cell_kept D8 hb2
  replace D9 := cell_kept D9 hb2
  replace D10 := cell_kept D10 hb2
  replace D11 := cell_kept D11 hb2
  replace HR1 := Lib.hid (HR1.out.below hb2)
  replace HR2 := Lib.hid (HR2.out.below hb2)
  replace HR3 := Lib.hid (HR3.out.below hb2)
  replace HR4 := Lib.hid (HR4.out.below hb2)
  replace hB := hB.trans (hb2.mono hB.size)
  clear hb2
  go_wp2_with fail
  refine (ratio_any rt true (by have := hQ.out; simp only [this]; simp) _).mono ?_
  rintro e w' ⟨rfl, rfl⟩
  go_wp2
  go_ret
  exact ⟨by simp, hB⟩

set_option maxRecDepth 100000 in
set_option maxHeartbeats 2000000 in
theorem lawChroma_g5 (x0 y0 x1 y1 rt ys cs at4 : Int) (A1 A2 A3 A4 : Option Addr) (c1 c2 c3 c4 : Nat) (z1 z2 z3 z4 : List Int) (x y : Int) (w : World) (hr1 : Hid (Reads w A1 z1)) (hl1 : Small z1) (hn1 : Hid (A1 = none → c1 = 0)) (hr2 : Hid (Reads w A2 z2)) (hl2 : Small z2) (hn2 : Hid (A2 = none → c2 = 0)) (hr3 : Hid (Reads w A3 z3)) (hl3 : Small z3) (hn3 : Hid (A3 = none → c3 = 0)) (hr4 : Hid (Reads w A4 z4)) (hl4 : Small z4) (hn4 : Hid (A4 = none → c4 = 0)) (hF : Hid (FairF x0 y0 x1 y1 ys cs at4)) (hI : Hid (Insd x0 y0 x1 y1 x y)) (hQ : Hid (0 ≤ rt ∧ rt ≤ 5)) (m1 : 0 ≤ x0) (m2 : 0 ≤ y0) (hT : Hid (¬ Ther x0 y0 rt ys cs at4 z1.length z2.length z3.length z4.length x y)) :
    Calls Try.prog 9 #[.agg #[.int .i64 x0, .int .i64 y0, .int .i64 x1, .int .i64 y1, .int .i64 rt, .int .i64 ys, .int .i64 cs, .int .i64 at4, .slice A1 z1.length c1, .slice A2 z2.length c2, .slice A3 z3.length c3, .slice A4 z4.length c4], .int .i64 x, .int .i64 y] w fun e w' => e = .returned (.bool true) ∧ Below w.heap.size w w' := by
  have hO : Hid (Okay x0 y0 x1 y1 rt ys cs at4 x y) := ⟨hF.out, hI.out, hQ.out.1, hQ.out.2, m1, m2⟩
  have hB : Below w.heap.size w (w.alloc (.cells #[.int .i64 x0, .int .i64 y0, .int .i64 x1, .int .i64 y1, .int .i64 rt, .int .i64 ys, .int .i64 cs, .int .i64 at4, .slice A1 z1.length c1, .slice A2 z2.length c2, .slice A3 z3.length c3, .slice A4 z4.length c4] 30)) := (Below.refl _ _).alloc (Nat.le_refl _) _
  have D0 : (w.alloc (.cells #[.int .i64 x0, .int .i64 y0, .int .i64 x1, .int .i64 y1, .int .i64 rt, .int .i64 ys, .int .i64 cs, .int .i64 at4, .slice A1 z1.length c1, .slice A2 z2.length c2, .slice A3 z3.length c3, .slice A4 z4.length c4] 30)).cell? ⟨w.heap.size, 0, none⟩ = some (.int .i64 x0) := by first | (simp; done) | go_simp
  have D1 : (w.alloc (.cells #[.int .i64 x0, .int .i64 y0, .int .i64 x1, .int .i64 y1, .int .i64 rt, .int .i64 ys, .int .i64 cs, .int .i64 at4, .slice A1 z1.length c1, .slice A2 z2.length c2, .slice A3 z3.length c3, .slice A4 z4.length c4] 30)).cell? ⟨w.heap.size, 1, none⟩ = some (.int .i64 y0) := by first | (simp; done) | go_simp
  have D2 : (w.alloc (.cells #[.int .i64 x0, .int .i64 y0, .int .i64 x1, .int .i64 y1, .int .i64 rt, .int .i64 ys, .int .i64 cs, .int .i64 at4, .slice A1 z1.length c1, .slice A2 z2.length c2, .slice A3 z3.length c3, .slice A4 z4.length c4] 30)).cell? ⟨w.heap.size, 2, none⟩ = some (.int .i64 x1) := by first | (simp; done) | go_simp
  have D3 : (w.alloc (.cells #[.int .i64 x0, .int .i64 y0, .int .i64 x1, .int .i64 y1, .int .i64 rt, .int .i64 ys, .int .i64 cs, .int .i64 at4, .slice A1 z1.length c1, .slice A2 z2.length c2, .slice A3 z3.length c3, .slice A4 z4.length c4] 30)).cell? ⟨w.heap.size, 3, none⟩ = some (.int .i64 y1) := by first | (simp; done) | go_simp
  have D4 : (w.alloc (.cells #[.int .i64 x0, .int .i64 y0, .int .i64 x1, .int .i64 y1, .int .i64 rt, .int .i64 ys, .int .i64 cs, .int .i64 at4, .slice A1 z1.length c1, .slice A2 z2.length c2, .slice A3 z3.length c3, .slice A4 z4.length c4] 30)).cell? ⟨w.heap.size, 4, none⟩ = some (.int .i64 rt) := by first | (simp; done) | go_simp
  have D5 : (w.alloc (.cells #[.int .i64 x0, .int .i64 y0, .int .i64 x1, .int .i64 y1, .int .i64 rt, .int .i64 ys, .int .i64 cs, .int .i64 at4, .slice A1 z1.length c1, .slice A2 z2.length c2, .slice A3 z3.length c3, .slice A4 z4.length c4] 30)).cell? ⟨w.heap.size, 5, none⟩ = some (.int .i64 ys) := by first | (simp; done) | go_simp
  have D6 : (w.alloc (.cells #[.int .i64 x0, .int .i64 y0, .int .i64 x1, .int .i64 y1, .int .i64 rt, .int .i64 ys, .int .i64 cs, .int .i64 at4, .slice A1 z1.length c1, .slice A2 z2.length c2, .slice A3 z3.length c3, .slice A4 z4.length c4] 30)).cell? ⟨w.heap.size, 6, none⟩ = some (.int .i64 cs) := by first | (simp; done) | go_simp
  have D7 : (w.alloc (.cells #[.int .i64 x0, .int .i64 y0, .int .i64 x1, .int .i64 y1, .int .i64 rt, .int .i64 ys, .int .i64 cs, .int .i64 at4, .slice A1 z1.length c1, .slice A2 z2.length c2, .slice A3 z3.length c3, .slice A4 z4.length c4] 30)).cell? ⟨w.heap.size, 7, none⟩ = some (.int .i64 at4) := by first | (simp; done) | go_simp
  have D8 : (w.alloc (.cells #[.int .i64 x0, .int .i64 y0, .int .i64 x1, .int .i64 y1, .int .i64 rt, .int .i64 ys, .int .i64 cs, .int .i64 at4, .slice A1 z1.length c1, .slice A2 z2.length c2, .slice A3 z3.length c3, .slice A4 z4.length c4] 30)).cell? ⟨w.heap.size, 8, none⟩ = some (.slice A1 z1.length c1) := by first | (simp; done) | go_simp
  have D9 : (w.alloc (.cells #[.int .i64 x0, .int .i64 y0, .int .i64 x1, .int .i64 y1, .int .i64 rt, .int .i64 ys, .int .i64 cs, .int .i64 at4, .slice A1 z1.length c1, .slice A2 z2.length c2, .slice A3 z3.length c3, .slice A4 z4.length c4] 30)).cell? ⟨w.heap.size, 9, none⟩ = some (.slice A2 z2.length c2) := by first | (simp; done) | go_simp
  have D10 : (w.alloc (.cells #[.int .i64 x0, .int .i64 y0, .int .i64 x1, .int .i64 y1, .int .i64 rt, .int .i64 ys, .int .i64 cs, .int .i64 at4, .slice A1 z1.length c1, .slice A2 z2.length c2, .slice A3 z3.length c3, .slice A4 z4.length c4] 30)).cell? ⟨w.heap.size, 10, none⟩ = some (.slice A3 z3.length c3) := by first | (simp; done) | go_simp
  have D11 : (w.alloc (.cells #[.int .i64 x0, .int .i64 y0, .int .i64 x1, .int .i64 y1, .int .i64 rt, .int .i64 ys, .int .i64 cs, .int .i64 at4, .slice A1 z1.length c1, .slice A2 z2.length c2, .slice A3 z3.length c3, .slice A4 z4.length c4] 30)).cell? ⟨w.heap.size, 11, none⟩ = some (.slice A4 z4.length c4) := by first | (simp; done) | go_simp
  have HR1 := Lib.hid (hr1.out.below hB)
  have HR2 := Lib.hid (hr2.out.below hB)
  have HR3 := Lib.hid (hr3.out.below hB)
  have HR4 := Lib.hid (hr4.out.below hB)
  go_enter Try.func9, Try.ntmps9
  go_wp2_with fail
  generalize w.alloc (.cells #[.int .i64 x0, .int .i64 y0, .int .i64 x1, .int .i64 y1, .int .i64 rt, .int .i64 ys, .int .i64 cs, .int .i64 at4, .slice A1 z1.length c1, .slice A2 z2.length c2, .slice A3 z3.length c3, .slice A4 z4.length c4] 30) = W0 at *
  go_wp2_with fail
  refine (fairF_any x0 y0 x1 y1 rt ys cs at4 A1 A2 A3 A4 c1 c2 c3 c4 z1 z2 z3 z4 true (by simp [hF.out]) _).mono ?_
  rintro e w1 ⟨rfl, hb1⟩
  replace D0 := cell_kept D0 hb1
  replace D1 := cell_kept D1 hb1
  replace D2 := cell_kept D2 hb1
  replace D3 := cell_kept D3 hb1
  replace D4 := cell_kept D4 hb1
  replace D5 := cell_kept D5 hb1
  replace D6 := cell_kept D6 hb1
  replace D7 := cell_kept D7 hb1
  replace D8 := cell_kept D8 hb1
  replace D9 := cell_kept D9 hb1
  replace D10 := cell_kept D10 hb1
  replace D11 := cell_kept D11 hb1
  replace HR1 := Lib.hid (HR1.out.below hb1)
  replace HR2 := Lib.hid (HR2.out.below hb1)
  replace HR3 := Lib.hid (HR3.out.below hb1)
  replace HR4 := Lib.hid (HR4.out.below hb1)
  replace hB := hB.trans (hb1.mono hB.size)
  clear hb1
  go_wp2_with fail
  refine (inside_any x0 y0 x1 y1 x y true (by simp [hI.out]) _).mono ?_
  rintro e w2 ⟨rfl, hb2⟩
  replace D0 := cell_kept D0 hb2
  replace D1 := cell_kept D1 hb2
  replace D2 := cell_kept D2 hb2
  replace D3 := cell_kept D3 hb2
  replace D4 := cell_kept D4 hb2
  replace D5 := cell_kept D5 hb2
  replace D6 := cell_kept D6 hb2
  replace D7 := cell_kept D7 hb2
  replace D8 := cell_kept D8 hb2
  replace D9 := cell_kept D9 hb2
  replace D10 := cell_kept D10 hb2
  replace D11 := cell_kept D11 hb2
  replace HR1 := Lib.hid (HR1.out.below hb2)
  replace HR2 := Lib.hid (HR2.out.below hb2)
  replace HR3 := Lib.hid (HR3.out.below hb2)
  replace HR4 := Lib.hid (HR4.out.below hb2)
  replace hB := hB.trans (hb2.mono hB.size)
  clear hb2
  go_wp2_with fail
  refine (ratio_any rt true (by have := hQ.out; simp only [this]; simp) _).mono ?_
  rintro e w' ⟨rfl, rfl⟩
  go_wp2_with fail
  refine (there_any x0 y0 x1 y1 rt ys cs at4 A1 A2 A3 A4 c1 c2 c3 c4 z1 z2 z3 z4 x y _ hO false (by simp [hT.out])).mono ?_
  rintro e w3 ⟨rfl, hb3⟩
  replace D0 := cell_kept D0 hb3
  replace D1 := cell_kept D1 hb3
  replace D2 := cell_kept D2 hb3
  replace D3 := cell_kept D3 hb3
  replace D4 := cell_kept D4 hb3
  replace D5 := cell_kept D5 hb3
  replace D6 := cell_kept D6 hb3
  replace D7 := cell_kept D7 hb3
  replace D8 := cell_kept D8 hb3
  replace D9 := cell_kept D9 hb3
  replace D10 := cell_kept D10 hb3
  replace D11 := cell_kept D11 hb3
  replace HR1 := Lib.hid (HR1.out.below hb3)
  replace HR2 := Lib.hid (HR2.out.below hb3)
  replace HR3 := Lib.hid (HR3.out.below hb3)
  replace HR4 := Lib.hid (HR4.out.below hb3)
  replace hB := hB.trans (hb3.mono hB.size)
  clear hb3
  go_wp2
  go_ret
  exact ⟨by simp, hB⟩

set_option maxRecDepth 100000 in
set_option maxHeartbeats 2000000 in
theorem lawChroma_in (x0 y0 x1 y1 rt ys cs at4 : Int) (A1 A2 A3 A4 : Option Addr) (c1 c2 c3 c4 : Nat) (z1 z2 z3 z4 : List Int) (x y : Int) (w : World) (hr1 : Hid (Reads w A1 z1)) (hl1 : Small z1) (hn1 : Hid (A1 = none → c1 = 0)) (hr2 : Hid (Reads w A2 z2)) (hl2 : Small z2) (hn2 : Hid (A2 = none → c2 = 0)) (hr3 : Hid (Reads w A3 z3)) (hl3 : Small z3) (hn3 : Hid (A3 = none → c3 = 0)) (hr4 : Hid (Reads w A4 z4)) (hl4 : Small z4) (hn4 : Hid (A4 = none → c4 = 0)) (hF : Hid (FairF x0 y0 x1 y1 ys cs at4)) (hI : Hid (Insd x0 y0 x1 y1 x y)) (hQ : Hid (0 ≤ rt ∧ rt ≤ 5)) (m1 : 0 ≤ x0) (m2 : 0 ≤ y0) (hT : Hid (Ther x0 y0 rt ys cs at4 z1.length z2.length z3.length z4.length x y)) :
    Calls Try.prog 9 #[.agg #[.int .i64 x0, .int .i64 y0, .int .i64 x1, .int .i64 y1, .int .i64 rt, .int .i64 ys, .int .i64 cs, .int .i64 at4, .slice A1 z1.length c1, .slice A2 z2.length c2, .slice A3 z3.length c3, .slice A4 z4.length c4], .int .i64 x, .int .i64 y] w fun e w' => e = .returned (.bool true) ∧ Below w.heap.size w w' := by
  have hO : Hid (Okay x0 y0 x1 y1 rt ys cs at4 x y) := ⟨hF.out, hI.out, hQ.out.1, hQ.out.2, m1, m2⟩
  obtain ⟨k1, K1⟩ : ∃ k : Nat, (y - y0) * ys + (x - x0) = k := ⟨((y - y0) * ys + (x - x0)).toNat, by have := hT.out.y0'; omega⟩
  obtain ⟨k2, K2⟩ : ∃ k : Nat, chr x0 y0 rt cs x y = k := ⟨(chr x0 y0 rt cs x y).toNat, by have := hT.out.c0'; omega⟩
  obtain ⟨k4, K4⟩ : ∃ k : Nat, (y - y0) * at4 + (x - x0) = k := ⟨((y - y0) * at4 + (x - x0)).toNat, by have := hT.out.a0'; omega⟩
  have hk1 : k1 < z1.length := by have := hT.out.y1'; omega
  have hk2 : k2 < z2.length := by have := hT.out.c1'; omega
  have hk3 : k2 < z3.length := by have := hT.out.c2'; omega
  have hk4 : k4 < z4.length := by have := hT.out.a1'; omega
  obtain ⟨v1, E1⟩ : ∃ v, z1.getD k1 0 = v := ⟨_, rfl⟩
  obtain ⟨b1, o1, rfl⟩ := hr1.out.addr (by omega)
  have q1 := hr1.out.cell (j := k1) (by omega)
  rw [E1] at q1
  have ni1 : (k1 : Int) < (z1.length : Int) := by omega
  replace E1 := Lib.hid E1
  obtain ⟨v2, E2⟩ : ∃ v, z2.getD k2 0 = v := ⟨_, rfl⟩
  obtain ⟨b2, o2, rfl⟩ := hr2.out.addr (by omega)
  have q2 := hr2.out.cell (j := k2) (by omega)
  rw [E2] at q2
  have ni2 : (k2 : Int) < (z2.length : Int) := by omega
  replace E2 := Lib.hid E2
  obtain ⟨v3, E3⟩ : ∃ v, z3.getD k2 0 = v := ⟨_, rfl⟩
  obtain ⟨b3, o3, rfl⟩ := hr3.out.addr (by omega)
  have q3 := hr3.out.cell (j := k2) (by omega)
  rw [E3] at q3
  have ni3 : (k2 : Int) < (z3.length : Int) := by omega
  replace E3 := Lib.hid E3
  obtain ⟨v4, E4⟩ : ∃ v, z4.getD k4 0 = v := ⟨_, rfl⟩
  obtain ⟨b4, o4, rfl⟩ := hr4.out.addr (by omega)
  have q4 := hr4.out.cell (j := k4) (by omega)
  rw [E4] at q4
  have ni4 : (k4 : Int) < (z4.length : Int) := by omega
  replace E4 := Lib.hid E4
  obtain ⟨_, _, _, _, _, _, w1', w2', w3', w4'⟩ := hO.out.nums
  obtain ⟨⟨p1, p2⟩, p3, p4⟩ := hO.out.prods
  replace K1 := Lib.hid K1
  replace K2 := Lib.hid K2
  replace K4 := Lib.hid K4
  have KC : Hid (∀ (g : Nat) (A1 A2 A3 A4 : Option Addr) (c1 c2 c3 c4 : Nat) (W : World), W.heap[g]? = some (.cells #[.slice A1 z1.length c1, .slice A2 z2.length c2, .slice A3 z3.length c3, .int .i64 ys, .int .i64 cs, .int .i64 rt, .int .i64 x0, .int .i64 y0, .int .i64 x1, .int .i64 y1, .slice A4 z4.length c4, .int .i64 at4] 83 (0, 0)) → Calls Try.prog 52 #[.pointer (some ⟨g, 0, none⟩), .int .i64 x, .int .i64 y] W fun e w' => e = .returned (.int .i64 (k2 : Int)) ∧ ∃ n, w' = W.drewN n) := fun g A1 A2 A3 A4 c1 c2 c3 c4 W hW => by
    have := cOffset_any g x0 y0 x1 y1 rt ys cs at4 A1 A2 A3 A4 c1 c2 c3 c4 z1 z2 z3 z4 x y W hW hO
    rw [K2.out] at this
    exact this
  have hB : Below w.heap.size w (w.alloc (.cells #[.int .i64 x0, .int .i64 y0, .int .i64 x1, .int .i64 y1, .int .i64 rt, .int .i64 ys, .int .i64 cs, .int .i64 at4, .slice (some ⟨b1, o1, none⟩) z1.length c1, .slice (some ⟨b2, o2, none⟩) z2.length c2, .slice (some ⟨b3, o3, none⟩) z3.length c3, .slice (some ⟨b4, o4, none⟩) z4.length c4] 30)) := (Below.refl _ _).alloc (Nat.le_refl _) _
  have D0 : (w.alloc (.cells #[.int .i64 x0, .int .i64 y0, .int .i64 x1, .int .i64 y1, .int .i64 rt, .int .i64 ys, .int .i64 cs, .int .i64 at4, .slice (some ⟨b1, o1, none⟩) z1.length c1, .slice (some ⟨b2, o2, none⟩) z2.length c2, .slice (some ⟨b3, o3, none⟩) z3.length c3, .slice (some ⟨b4, o4, none⟩) z4.length c4] 30)).cell? ⟨w.heap.size, 0, none⟩ = some (.int .i64 x0) := by first | (simp; done) | go_simp
  have D1 : (w.alloc (.cells #[.int .i64 x0, .int .i64 y0, .int .i64 x1, .int .i64 y1, .int .i64 rt, .int .i64 ys, .int .i64 cs, .int .i64 at4, .slice (some ⟨b1, o1, none⟩) z1.length c1, .slice (some ⟨b2, o2, none⟩) z2.length c2, .slice (some ⟨b3, o3, none⟩) z3.length c3, .slice (some ⟨b4, o4, none⟩) z4.length c4] 30)).cell? ⟨w.heap.size, 1, none⟩ = some (.int .i64 y0) := by first | (simp; done) | go_simp
  have D2 : (w.alloc (.cells #[.int .i64 x0, .int .i64 y0, .int .i64 x1, .int .i64 y1, .int .i64 rt, .int .i64 ys, .int .i64 cs, .int .i64 at4, .slice (some ⟨b1, o1, none⟩) z1.length c1, .slice (some ⟨b2, o2, none⟩) z2.length c2, .slice (some ⟨b3, o3, none⟩) z3.length c3, .slice (some ⟨b4, o4, none⟩) z4.length c4] 30)).cell? ⟨w.heap.size, 2, none⟩ = some (.int .i64 x1) := by first | (simp; done) | go_simp
  have D3 : (w.alloc (.cells #[.int .i64 x0, .int .i64 y0, .int .i64 x1, .int .i64 y1, .int .i64 rt, .int .i64 ys, .int .i64 cs, .int .i64 at4, .slice (some ⟨b1, o1, none⟩) z1.length c1, .slice (some ⟨b2, o2, none⟩) z2.length c2, .slice (some ⟨b3, o3, none⟩) z3.length c3, .slice (some ⟨b4, o4, none⟩) z4.length c4] 30)).cell? ⟨w.heap.size, 3, none⟩ = some (.int .i64 y1) := by first | (simp; done) | go_simp
  have D4 : (w.alloc (.cells #[.int .i64 x0, .int .i64 y0, .int .i64 x1, .int .i64 y1, .int .i64 rt, .int .i64 ys, .int .i64 cs, .int .i64 at4, .slice (some ⟨b1, o1, none⟩) z1.length c1, .slice (some ⟨b2, o2, none⟩) z2.length c2, .slice (some ⟨b3, o3, none⟩) z3.length c3, .slice (some ⟨b4, o4, none⟩) z4.length c4] 30)).cell? ⟨w.heap.size, 4, none⟩ = some (.int .i64 rt) := by first | (simp; done) | go_simp
  have D5 : (w.alloc (.cells #[.int .i64 x0, .int .i64 y0, .int .i64 x1, .int .i64 y1, .int .i64 rt, .int .i64 ys, .int .i64 cs, .int .i64 at4, .slice (some ⟨b1, o1, none⟩) z1.length c1, .slice (some ⟨b2, o2, none⟩) z2.length c2, .slice (some ⟨b3, o3, none⟩) z3.length c3, .slice (some ⟨b4, o4, none⟩) z4.length c4] 30)).cell? ⟨w.heap.size, 5, none⟩ = some (.int .i64 ys) := by first | (simp; done) | go_simp
  have D6 : (w.alloc (.cells #[.int .i64 x0, .int .i64 y0, .int .i64 x1, .int .i64 y1, .int .i64 rt, .int .i64 ys, .int .i64 cs, .int .i64 at4, .slice (some ⟨b1, o1, none⟩) z1.length c1, .slice (some ⟨b2, o2, none⟩) z2.length c2, .slice (some ⟨b3, o3, none⟩) z3.length c3, .slice (some ⟨b4, o4, none⟩) z4.length c4] 30)).cell? ⟨w.heap.size, 6, none⟩ = some (.int .i64 cs) := by first | (simp; done) | go_simp
  have D7 : (w.alloc (.cells #[.int .i64 x0, .int .i64 y0, .int .i64 x1, .int .i64 y1, .int .i64 rt, .int .i64 ys, .int .i64 cs, .int .i64 at4, .slice (some ⟨b1, o1, none⟩) z1.length c1, .slice (some ⟨b2, o2, none⟩) z2.length c2, .slice (some ⟨b3, o3, none⟩) z3.length c3, .slice (some ⟨b4, o4, none⟩) z4.length c4] 30)).cell? ⟨w.heap.size, 7, none⟩ = some (.int .i64 at4) := by first | (simp; done) | go_simp
  have D8 : (w.alloc (.cells #[.int .i64 x0, .int .i64 y0, .int .i64 x1, .int .i64 y1, .int .i64 rt, .int .i64 ys, .int .i64 cs, .int .i64 at4, .slice (some ⟨b1, o1, none⟩) z1.length c1, .slice (some ⟨b2, o2, none⟩) z2.length c2, .slice (some ⟨b3, o3, none⟩) z3.length c3, .slice (some ⟨b4, o4, none⟩) z4.length c4] 30)).cell? ⟨w.heap.size, 8, none⟩ = some (.slice (some ⟨b1, o1, none⟩) z1.length c1) := by first | (simp; done) | go_simp
  have D9 : (w.alloc (.cells #[.int .i64 x0, .int .i64 y0, .int .i64 x1, .int .i64 y1, .int .i64 rt, .int .i64 ys, .int .i64 cs, .int .i64 at4, .slice (some ⟨b1, o1, none⟩) z1.length c1, .slice (some ⟨b2, o2, none⟩) z2.length c2, .slice (some ⟨b3, o3, none⟩) z3.length c3, .slice (some ⟨b4, o4, none⟩) z4.length c4] 30)).cell? ⟨w.heap.size, 9, none⟩ = some (.slice (some ⟨b2, o2, none⟩) z2.length c2) := by first | (simp; done) | go_simp
  have D10 : (w.alloc (.cells #[.int .i64 x0, .int .i64 y0, .int .i64 x1, .int .i64 y1, .int .i64 rt, .int .i64 ys, .int .i64 cs, .int .i64 at4, .slice (some ⟨b1, o1, none⟩) z1.length c1, .slice (some ⟨b2, o2, none⟩) z2.length c2, .slice (some ⟨b3, o3, none⟩) z3.length c3, .slice (some ⟨b4, o4, none⟩) z4.length c4] 30)).cell? ⟨w.heap.size, 10, none⟩ = some (.slice (some ⟨b3, o3, none⟩) z3.length c3) := by first | (simp; done) | go_simp
  have D11 : (w.alloc (.cells #[.int .i64 x0, .int .i64 y0, .int .i64 x1, .int .i64 y1, .int .i64 rt, .int .i64 ys, .int .i64 cs, .int .i64 at4, .slice (some ⟨b1, o1, none⟩) z1.length c1, .slice (some ⟨b2, o2, none⟩) z2.length c2, .slice (some ⟨b3, o3, none⟩) z3.length c3, .slice (some ⟨b4, o4, none⟩) z4.length c4] 30)).cell? ⟨w.heap.size, 11, none⟩ = some (.slice (some ⟨b4, o4, none⟩) z4.length c4) := by first | (simp; done) | go_simp
  have HR1 := Lib.hid (hr1.out.below hB)
  have HR2 := Lib.hid (hr2.out.below hB)
  have HR3 := Lib.hid (hr3.out.below hB)
  have HR4 := Lib.hid (hr4.out.below hB)
  go_enter Try.func9, Try.ntmps9
  go_wp2_with fail
  generalize w.alloc (.cells #[.int .i64 x0, .int .i64 y0, .int .i64 x1, .int .i64 y1, .int .i64 rt, .int .i64 ys, .int .i64 cs, .int .i64 at4, .slice (some ⟨b1, o1, none⟩) z1.length c1, .slice (some ⟨b2, o2, none⟩) z2.length c2, .slice (some ⟨b3, o3, none⟩) z3.length c3, .slice (some ⟨b4, o4, none⟩) z4.length c4] 30) = W0 at *
  go_wp2_with fail
  refine (fairF_any x0 y0 x1 y1 rt ys cs at4 _ _ _ _ c1 c2 c3 c4 z1 z2 z3 z4 true (by simp [hF.out]) _).mono ?_
  rintro e w1 ⟨rfl, hb1⟩
  replace D0 := cell_kept D0 hb1
  replace D1 := cell_kept D1 hb1
  replace D2 := cell_kept D2 hb1
  replace D3 := cell_kept D3 hb1
  replace D4 := cell_kept D4 hb1
  replace D5 := cell_kept D5 hb1
  replace D6 := cell_kept D6 hb1
  replace D7 := cell_kept D7 hb1
  replace D8 := cell_kept D8 hb1
  replace D9 := cell_kept D9 hb1
  replace D10 := cell_kept D10 hb1
  replace D11 := cell_kept D11 hb1
  replace HR1 := Lib.hid (HR1.out.below hb1)
  replace HR2 := Lib.hid (HR2.out.below hb1)
  replace HR3 := Lib.hid (HR3.out.below hb1)
  replace HR4 := Lib.hid (HR4.out.below hb1)
  replace hB := hB.trans (hb1.mono hB.size)
  clear hb1
  go_wp2_with fail
  refine (inside_any x0 y0 x1 y1 x y true (by simp [hI.out]) _).mono ?_
  rintro e w2 ⟨rfl, hb2⟩
  replace D0 := cell_kept D0 hb2
  replace D1 := cell_kept D1 hb2
  replace D2 := cell_kept D2 hb2
  replace D3 := cell_kept D3 hb2
  replace D4 := cell_kept D4 hb2
  replace D5 := cell_kept D5 hb2
  replace D6 := cell_kept D6 hb2
  replace D7 := cell_kept D7 hb2
  replace D8 := cell_kept D8 hb2
  replace D9 := cell_kept D9 hb2
  replace D10 := cell_kept D10 hb2
  replace D11 := cell_kept D11 hb2
  replace HR1 := Lib.hid (HR1.out.below hb2)
  replace HR2 := Lib.hid (HR2.out.below hb2)
  replace HR3 := Lib.hid (HR3.out.below hb2)
  replace HR4 := Lib.hid (HR4.out.below hb2)
  replace hB := hB.trans (hb2.mono hB.size)
  clear hb2
  go_wp2_with fail
  refine (ratio_any rt true (by have := hQ.out; simp only [this]; simp) _).mono ?_
  rintro e w' ⟨rfl, rfl⟩
  replace q1 := cell_kept q1 (hB : Below w.heap.size w w2)
  replace q2 := cell_kept q2 (hB : Below w.heap.size w w2)
  replace q3 := cell_kept q3 (hB : Below w.heap.size w w2)
  replace q4 := cell_kept q4 (hB : Below w.heap.size w w2)
  go_wp2_with fail
  refine (there_any x0 y0 x1 y1 rt ys cs at4 _ _ _ _ c1 c2 c3 c4 z1 z2 z3 z4 x y _ hO true (by simp [hT.out])).mono ?_
  rintro e w3 ⟨rfl, hb3⟩
  replace D0 := cell_kept D0 hb3
  replace D1 := cell_kept D1 hb3
  replace D2 := cell_kept D2 hb3
  replace D3 := cell_kept D3 hb3
  replace D4 := cell_kept D4 hb3
  replace D5 := cell_kept D5 hb3
  replace D6 := cell_kept D6 hb3
  replace D7 := cell_kept D7 hb3
  replace D8 := cell_kept D8 hb3
  replace D9 := cell_kept D9 hb3
  replace D10 := cell_kept D10 hb3
  replace D11 := cell_kept D11 hb3
  replace q1 := cell_kept q1 hb3
  replace q2 := cell_kept q2 hb3
  replace q3 := cell_kept q3 hb3
  replace q4 := cell_kept q4 hb3
  replace HR1 := Lib.hid (HR1.out.below hb3)
  replace HR2 := Lib.hid (HR2.out.below hb3)
  replace HR3 := Lib.hid (HR3.out.below hb3)
  replace HR4 := Lib.hid (HR4.out.below hb3)
  replace hB := hB.trans (hb3.mono hB.size)
  clear hb3
  go_upto_region 3 with fail
  have P0 : Below w3.heap.size w3 w3.drew := (Below.refl _ _).drew
  have P0a : Below w3.heap.size w3 (w3.alloc (.cells #[.int .u8 0, .int .u8 0, .int .u8 0, .int .u8 0] 41)).drew := ((Below.refl _ _).alloc (Nat.le_refl _) _).drew
  have toS : ∀ W' : World, Below w3.heap.size w3 W' → (W'.cell? ⟨w.heap.size, 0, none⟩ = some (.int .i64 x0) ∧ W'.cell? ⟨w.heap.size, 1, none⟩ = some (.int .i64 y0) ∧ W'.cell? ⟨w.heap.size, 2, none⟩ = some (.int .i64 x1) ∧ W'.cell? ⟨w.heap.size, 3, none⟩ = some (.int .i64 y1) ∧ W'.cell? ⟨w.heap.size, 4, none⟩ = some (.int .i64 rt) ∧ W'.cell? ⟨w.heap.size, 5, none⟩ = some (.int .i64 ys) ∧ W'.cell? ⟨w.heap.size, 6, none⟩ = some (.int .i64 cs) ∧ W'.cell? ⟨w.heap.size, 7, none⟩ = some (.int .i64 at4) ∧ W'.cell? ⟨w.heap.size, 8, none⟩ = some (.slice (some ⟨b1, o1, none⟩) z1.length c1) ∧ W'.cell? ⟨w.heap.size, 9, none⟩ = some (.slice (some ⟨b2, o2, none⟩) z2.length c2) ∧ W'.cell? ⟨w.heap.size, 10, none⟩ = some (.slice (some ⟨b3, o3, none⟩) z3.length c3) ∧ W'.cell? ⟨w.heap.size, 11, none⟩ = some (.slice (some ⟨b4, o4, none⟩) z4.length c4) ∧ W'.cell? ⟨b1, o1 + k1, none⟩ = some (.int .u8 v1) ∧ W'.cell? ⟨b2, o2 + k2, none⟩ = some (.int .u8 v2) ∧ W'.cell? ⟨b3, o3 + k2, none⟩ = some (.int .u8 v3) ∧ W'.cell? ⟨b4, o4 + k4, none⟩ = some (.int .u8 v4)) := fun W' h => ⟨cell_kept D0 h, cell_kept D1 h, cell_kept D2 h, cell_kept D3 h, cell_kept D4 h, cell_kept D5 h, cell_kept D6 h, cell_kept D7 h, cell_kept D8 h, cell_kept D9 h, cell_kept D10 h, cell_kept D11 h, cell_kept q1 h, cell_kept q2 h, cell_kept q3 h, cell_kept q4 h⟩
  have TOS := Lib.hid toS
  clear toS
  go_cut [7, 8] (fun pp qq wx => ∃ bc : Nat, pp = .pointer (some ⟨bc, 0, none⟩) ∧ qq = .int .i64 (k2 : Int) ∧ w3.heap.size ≤ bc ∧ bc < wx.heap.size ∧ Below w3.heap.size w3 wx ∧ wx.cell? ⟨bc, 0, none⟩ = some (.int .u8 v1) ∧ wx.cell? ⟨bc, 1, none⟩ = some (.int .u8 v2) ∧ wx.cell? ⟨bc, 2, none⟩ = some (.int .u8 v3) ∧ wx.cell? ⟨bc, 3, none⟩ = some (.int .u8 v4))
  case first =>
    go_region_held3 (fun w' => w'.cell? ⟨w.heap.size, 0, none⟩ = some (.int .i64 x0) ∧ w'.cell? ⟨w.heap.size, 1, none⟩ = some (.int .i64 y0) ∧ w'.cell? ⟨w.heap.size, 2, none⟩ = some (.int .i64 x1) ∧ w'.cell? ⟨w.heap.size, 3, none⟩ = some (.int .i64 y1) ∧ w'.cell? ⟨w.heap.size, 4, none⟩ = some (.int .i64 rt) ∧ w'.cell? ⟨w.heap.size, 5, none⟩ = some (.int .i64 ys) ∧ w'.cell? ⟨w.heap.size, 6, none⟩ = some (.int .i64 cs) ∧ w'.cell? ⟨w.heap.size, 7, none⟩ = some (.int .i64 at4) ∧ w'.cell? ⟨w.heap.size, 8, none⟩ = some (.slice (some ⟨b1, o1, none⟩) z1.length c1) ∧ w'.cell? ⟨w.heap.size, 9, none⟩ = some (.slice (some ⟨b2, o2, none⟩) z2.length c2) ∧ w'.cell? ⟨w.heap.size, 10, none⟩ = some (.slice (some ⟨b3, o3, none⟩) z3.length c3) ∧ w'.cell? ⟨w.heap.size, 11, none⟩ = some (.slice (some ⟨b4, o4, none⟩) z4.length c4) ∧ w'.cell? ⟨b1, o1 + k1, none⟩ = some (.int .u8 v1) ∧ w'.cell? ⟨b2, o2 + k2, none⟩ = some (.int .u8 v2) ∧ w'.cell? ⟨b3, o3 + k2, none⟩ = some (.int .u8 v3) ∧ w'.cell? ⟨b4, o4 + k4, none⟩ = some (.int .u8 v4))
      ((refine TOS.out _ ?_; first | with_reducible exact P0 | with_reducible exact P0a | with_reducible exact P1 | with_reducible exact P1.alloc P1.size _ | with_reducible exact P2 | with_reducible exact P2.alloc P2.size _ | with_reducible exact ((((P2.setCell (Nat.le_refl _) _).setCell (Nat.le_refl _) _).setCell (Nat.le_refl _) _).setCell (Nat.le_refl _) _) | with_reducible exact ((((P2.setCell P1.size _).setCell P1.size _).setCell P1.size _).setCell P1.size _)))
      (first | (go_at_call 21; refine (implAt_in x0 y0 x1 y1 rt ys cs at4 _ _ _ _ c1 c2 c3 c4 z1 z2 z3 z4 x y _ ?_ hl1 hn1 ?_ hl2 hn2 ?_ hl3 hn3 ?_ hl4 hn4 k1 k2 k4 v1 v2 v3 v4 E1 E2 E3 E4 hI w1' w2' w3' w4' p1 p2 p3 p4 K1 K4 hk1 hk2 hk3 hk4 KC).mono ?_; (first | exact HR1.out.below P0 | exact HR1.out.below P0a); (first | exact HR2.out.below P0 | exact HR2.out.below P0a); (first | exact HR3.out.below P0 | exact HR3.out.below P0a); (first | exact HR4.out.below P0 | exact HR4.out.below P0a); rintro e u1 ⟨rfl, hv1⟩; (first | (have P1 : Below w3.heap.size w3 u1 := P0.trans (hv1.mono P0.size); skip) | (have P1 : Below w3.heap.size w3 u1 := P0a.trans (hv1.mono P0a.size); have zc0 : u1.cell? ⟨w3.heap.size, 0, none⟩ = some (.int .u8 0) := ((bcell hv1).1 _ 0 (by simp)).trans (by simp); have zf0 : u1.frozen? ⟨w3.heap.size, 0, none⟩ = false := ((bcell hv1).2 _ 0 (by simp)).trans (by simp); have zc1 : u1.cell? ⟨w3.heap.size, 1, none⟩ = some (.int .u8 0) := ((bcell hv1).1 _ 1 (by simp)).trans (by simp); have zf1 : u1.frozen? ⟨w3.heap.size, 1, none⟩ = false := ((bcell hv1).2 _ 1 (by simp)).trans (by simp); have zc2 : u1.cell? ⟨w3.heap.size, 2, none⟩ = some (.int .u8 0) := ((bcell hv1).1 _ 2 (by simp)).trans (by simp); have zf2 : u1.frozen? ⟨w3.heap.size, 2, none⟩ = false := ((bcell hv1).2 _ 2 (by simp)).trans (by simp); have zc3 : u1.cell? ⟨w3.heap.size, 3, none⟩ = some (.int .u8 0) := ((bcell hv1).1 _ 3 (by simp)).trans (by simp); have zf3 : u1.frozen? ⟨w3.heap.size, 3, none⟩ = false := ((bcell hv1).2 _ 3 (by simp)).trans (by simp)))) | (go_at_call 30; refine (chroma_any x0 y0 x1 y1 rt ys cs at4 _ _ _ _ c1 c2 c3 c4 z1 z2 z3 z4 x y _ hO).mono ?_; rintro e u2 ⟨rfl, hv2⟩; rw [K2.out]; (first | (have P2 : Below w3.heap.size w3 u2 := P1.trans (hv2.mono P1.size); (try (replace zf0 := frozenK zc0 zf0 hv2; replace zc0 := cell_kept zc0 hv2; replace zf1 := frozenK zc1 zf1 hv2; replace zc1 := cell_kept zc1 hv2; replace zf2 := frozenK zc2 zf2 hv2; replace zc2 := cell_kept zc2 hv2; replace zf3 := frozenK zc3 zf3 hv2; replace zc3 := cell_kept zc3 hv2))) | (have P2 : Below w3.heap.size w3 u2 := (P1.alloc P1.size (.cells #[.int .u8 0, .int .u8 0, .int .u8 0, .int .u8 0] 41)).trans (hv2.mono (P1.alloc P1.size (.cells #[.int .u8 0, .int .u8 0, .int .u8 0, .int .u8 0] 41)).size); have zc0 : u2.cell? ⟨u1.heap.size, 0, none⟩ = some (.int .u8 0) := ((bcell hv2).1 _ 0 (by simp)).trans (by simp); have zf0 : u2.frozen? ⟨u1.heap.size, 0, none⟩ = false := ((bcell hv2).2 _ 0 (by simp)).trans (by simp); have zc1 : u2.cell? ⟨u1.heap.size, 1, none⟩ = some (.int .u8 0) := ((bcell hv2).1 _ 1 (by simp)).trans (by simp); have zf1 : u2.frozen? ⟨u1.heap.size, 1, none⟩ = false := ((bcell hv2).2 _ 1 (by simp)).trans (by simp); have zc2 : u2.cell? ⟨u1.heap.size, 2, none⟩ = some (.int .u8 0) := ((bcell hv2).1 _ 2 (by simp)).trans (by simp); have zf2 : u2.frozen? ⟨u1.heap.size, 2, none⟩ = false := ((bcell hv2).2 _ 2 (by simp)).trans (by simp); have zc3 : u2.cell? ⟨u1.heap.size, 3, none⟩ = some (.int .u8 0) := ((bcell hv2).1 _ 3 (by simp)).trans (by simp); have zf3 : u2.frozen? ⟨u1.heap.size, 3, none⟩ = false := ((bcell hv2).2 _ 3 (by simp)).trans (by simp)))))
    all_goals
      go_wp2_with fail
      go_meet
      have z1 := P1.size
      have z2 := P2.size
      have y2 := hv2.size
      first
        | exact ⟨u2.heap.size, rfl, rfl, P2.size, by simp, P2.alloc P2.size _, by simp, by simp, by simp, by simp⟩
        | exact ⟨w3.heap.size, rfl, rfl, Nat.le_refl _, lt_sets (World.block_lt_of_cell? _ _ zc0) (by simp [World.setCell]), ((((P2.setCell (Nat.le_refl _) _).setCell (Nat.le_refl _) _).setCell (Nat.le_refl _) _).setCell (Nat.le_refl _) _), by go_simp, by go_simp, by go_simp, by go_simp⟩
        | exact ⟨u1.heap.size, rfl, rfl, P1.size, lt_sets (World.block_lt_of_cell? _ _ zc0) (by simp [World.setCell]), ((((P2.setCell P1.size _).setCell P1.size _).setCell P1.size _).setCell P1.size _), by go_simp, by go_simp, by go_simp, by go_simp⟩
  case rest =>
    clear TOS P0 P0a
    obtain ⟨bc, rfl, rfl, hbc, hbl, hBm, cc0, cc1, cc2, cc3⟩ := hcut
    replace D0 := cell_kept D0 hBm
    replace D1 := cell_kept D1 hBm
    replace D2 := cell_kept D2 hBm
    replace D3 := cell_kept D3 hBm
    replace D4 := cell_kept D4 hBm
    replace D5 := cell_kept D5 hBm
    replace D6 := cell_kept D6 hBm
    replace D7 := cell_kept D7 hBm
    replace D8 := cell_kept D8 hBm
    replace D9 := cell_kept D9 hBm
    replace D10 := cell_kept D10 hBm
    replace D11 := cell_kept D11 hBm
    replace q1 := cell_kept q1 hBm
    replace q2 := cell_kept q2 hBm
    replace q3 := cell_kept q3 hBm
    replace q4 := cell_kept q4 hBm
    replace HR1 := Lib.hid (HR1.out.below hBm)
    replace HR2 := Lib.hid (HR2.out.below hBm)
    replace HR3 := Lib.hid (HR3.out.below hBm)
    replace HR4 := Lib.hid (HR4.out.below hBm)
    replace hB := hB.trans (hBm.mono hB.size)
    clear hBm
    have i2 : (0 : Int) ≤ (k2 : Int) := by omega
    go_wp2_with fail
    have P0 : Below wc.heap.size wc wc.drew := (Below.refl _ _).drew
    have toS : ∀ W' : World, Below wc.heap.size wc W' → (W'.cell? ⟨w.heap.size, 0, none⟩ = some (.int .i64 x0) ∧ W'.cell? ⟨w.heap.size, 1, none⟩ = some (.int .i64 y0) ∧ W'.cell? ⟨w.heap.size, 2, none⟩ = some (.int .i64 x1) ∧ W'.cell? ⟨w.heap.size, 3, none⟩ = some (.int .i64 y1) ∧ W'.cell? ⟨w.heap.size, 4, none⟩ = some (.int .i64 rt) ∧ W'.cell? ⟨w.heap.size, 5, none⟩ = some (.int .i64 ys) ∧ W'.cell? ⟨w.heap.size, 6, none⟩ = some (.int .i64 cs) ∧ W'.cell? ⟨w.heap.size, 7, none⟩ = some (.int .i64 at4) ∧ W'.cell? ⟨w.heap.size, 8, none⟩ = some (.slice (some ⟨b1, o1, none⟩) z1.length c1) ∧ W'.cell? ⟨w.heap.size, 9, none⟩ = some (.slice (some ⟨b2, o2, none⟩) z2.length c2) ∧ W'.cell? ⟨w.heap.size, 10, none⟩ = some (.slice (some ⟨b3, o3, none⟩) z3.length c3) ∧ W'.cell? ⟨w.heap.size, 11, none⟩ = some (.slice (some ⟨b4, o4, none⟩) z4.length c4) ∧ W'.cell? ⟨b1, o1 + k1, none⟩ = some (.int .u8 v1) ∧ W'.cell? ⟨b2, o2 + k2, none⟩ = some (.int .u8 v2) ∧ W'.cell? ⟨b3, o3 + k2, none⟩ = some (.int .u8 v3) ∧ W'.cell? ⟨b4, o4 + k4, none⟩ = some (.int .u8 v4) ∧ W'.cell? ⟨bc, 0, none⟩ = some (.int .u8 v1) ∧ W'.cell? ⟨bc, 1, none⟩ = some (.int .u8 v2) ∧ W'.cell? ⟨bc, 2, none⟩ = some (.int .u8 v3) ∧ W'.cell? ⟨bc, 3, none⟩ = some (.int .u8 v4)) := fun W' h => ⟨cell_kept D0 h, cell_kept D1 h, cell_kept D2 h, cell_kept D3 h, cell_kept D4 h, cell_kept D5 h, cell_kept D6 h, cell_kept D7 h, cell_kept D8 h, cell_kept D9 h, cell_kept D10 h, cell_kept D11 h, cell_kept q1 h, cell_kept q2 h, cell_kept q3 h, cell_kept q4 h, cell_kept cc0 h, cell_kept cc1 h, cell_kept cc2 h, cell_kept cc3 h⟩
    have TOS := Lib.hid toS
    clear toS
    have hzN := hB.size
    refine wp_region_held_drew (S := fun w' => w'.cell? ⟨w.heap.size, 0, none⟩ = some (.int .i64 x0) ∧ w'.cell? ⟨w.heap.size, 1, none⟩ = some (.int .i64 y0) ∧ w'.cell? ⟨w.heap.size, 2, none⟩ = some (.int .i64 x1) ∧ w'.cell? ⟨w.heap.size, 3, none⟩ = some (.int .i64 y1) ∧ w'.cell? ⟨w.heap.size, 4, none⟩ = some (.int .i64 rt) ∧ w'.cell? ⟨w.heap.size, 5, none⟩ = some (.int .i64 ys) ∧ w'.cell? ⟨w.heap.size, 6, none⟩ = some (.int .i64 cs) ∧ w'.cell? ⟨w.heap.size, 7, none⟩ = some (.int .i64 at4) ∧ w'.cell? ⟨w.heap.size, 8, none⟩ = some (.slice (some ⟨b1, o1, none⟩) z1.length c1) ∧ w'.cell? ⟨w.heap.size, 9, none⟩ = some (.slice (some ⟨b2, o2, none⟩) z2.length c2) ∧ w'.cell? ⟨w.heap.size, 10, none⟩ = some (.slice (some ⟨b3, o3, none⟩) z3.length c3) ∧ w'.cell? ⟨w.heap.size, 11, none⟩ = some (.slice (some ⟨b4, o4, none⟩) z4.length c4) ∧ w'.cell? ⟨b1, o1 + k1, none⟩ = some (.int .u8 v1) ∧ w'.cell? ⟨b2, o2 + k2, none⟩ = some (.int .u8 v2) ∧ w'.cell? ⟨b3, o3 + k2, none⟩ = some (.int .u8 v3) ∧ w'.cell? ⟨b4, o4 + k4, none⟩ = some (.int .u8 v4) ∧ w'.cell? ⟨bc, 0, none⟩ = some (.int .u8 v1) ∧ w'.cell? ⟨bc, 1, none⟩ = some (.int .u8 v2) ∧ w'.cell? ⟨bc, 2, none⟩ = some (.int .u8 v3) ∧ w'.cell? ⟨bc, 3, none⟩ = some (.int .u8 v4)) (by kernel_rfl) ?_ (fun hHeld => ?_)
    · (first | (refine TOS.out _ ?_; first | with_reducible exact P0))
    refine wpAnyH_take (i := 0) (oi := _) (v := ?v0) rfl (by kernel_rfl) (by kernel_rfl) (by kernel_rfl) (fun _ _ _ h => h) (Or.inl ⟨by rfl, ?hy0⟩) (by assumption) ?rest0
    case hy0 => (intro w hSw; (try dsimp only at hSw); go_simp <;> with_reducible rfl)
    try simp only [Act.put, List.getElem_toArray, List.getElem_cons_succ, List.getElem_cons_zero, List.setIfInBounds_toArray, List.set_cons_zero, List.set_cons_succ]
    refine wpAnyH_take (i := 1) (oi := _) (v := ?v1) rfl (by kernel_rfl) (by kernel_rfl) (by kernel_rfl) (fun _ _ _ h => h) (Or.inl ⟨by rfl, ?hy1⟩) (by assumption) ?rest1
    case hy1 => (intro w hSw; (try dsimp only at hSw); go_simp <;> with_reducible rfl)
    try simp only [Act.put, List.getElem_toArray, List.getElem_cons_succ, List.getElem_cons_zero, List.setIfInBounds_toArray, List.set_cons_zero, List.set_cons_succ]
    refine wpAnyH_take (i := 2) (oi := _) (v := ?v2) rfl (by kernel_rfl) (by kernel_rfl) (by kernel_rfl) (fun _ _ _ h => h) (Or.inl ⟨by rfl, ?hy2⟩) (by assumption) ?rest2
    case hy2 => (intro w hSw; (try dsimp only at hSw); go_simp <;> with_reducible rfl)
    try simp only [Act.put, List.getElem_toArray, List.getElem_cons_succ, List.getElem_cons_zero, List.setIfInBounds_toArray, List.set_cons_zero, List.set_cons_succ]
    refine wpAnyH_take (i := 3) (oi := _) (v := ?v3) rfl (by kernel_rfl) (by kernel_rfl) (by kernel_rfl) (fun _ _ _ h => h) (Or.inl ⟨by rfl, ?hy3⟩) (by assumption) ?rest3
    case hy3 => (intro w hSw; (try dsimp only at hSw); go_simp <;> with_reducible rfl)
    try simp only [Act.put, List.getElem_toArray, List.getElem_cons_succ, List.getElem_cons_zero, List.setIfInBounds_toArray, List.set_cons_zero, List.set_cons_succ]
    refine wpAnyH_take (i := 4) (oi := _) (v := ?v4) rfl (by kernel_rfl) (by kernel_rfl) (by kernel_rfl) (fun _ _ _ h => h) (Or.inl ⟨by rfl, ?hy4⟩) (by assumption) ?rest4
    case hy4 => (intro w hSw; (try dsimp only at hSw); go_simp <;> with_reducible rfl)
    try simp only [Act.put, List.getElem_toArray, List.getElem_cons_succ, List.getElem_cons_zero, List.setIfInBounds_toArray, List.set_cons_zero, List.set_cons_succ]
    refine wpAnyH_take (i := 5) (oi := _) (v := ?v5) rfl (by kernel_rfl) (by kernel_rfl) (by kernel_rfl) (fun _ _ _ h => h) (Or.inl ⟨by rfl, ?hy5⟩) (by assumption) ?rest5
    case hy5 => (intro w hSw; (try dsimp only at hSw); go_simp <;> with_reducible rfl)
    try simp only [Act.put, List.getElem_toArray, List.getElem_cons_succ, List.getElem_cons_zero, List.setIfInBounds_toArray, List.set_cons_zero, List.set_cons_succ]
    refine wpAnyH_take (i := 6) (oi := _) (v := ?v6) rfl (by kernel_rfl) (by kernel_rfl) (by kernel_rfl) (fun _ _ _ h => h) (Or.inl ⟨by rfl, ?hy6⟩) (by assumption) ?rest6
    case hy6 => (intro w hSw; (try dsimp only at hSw); go_simp <;> with_reducible rfl)
    try simp only [Act.put, List.getElem_toArray, List.getElem_cons_succ, List.getElem_cons_zero, List.setIfInBounds_toArray, List.set_cons_zero, List.set_cons_succ]
    refine wpAnyH_take (i := 7) (oi := _) (v := ?v7) rfl (by kernel_rfl) (by kernel_rfl) (by kernel_rfl) (fun _ _ _ h => h) (Or.inl ⟨by rfl, ?hy7⟩) (by assumption) ?rest7
    case hy7 => (intro w hSw; (try dsimp only at hSw); go_simp <;> with_reducible rfl)
    try simp only [Act.put, List.getElem_toArray, List.getElem_cons_succ, List.getElem_cons_zero, List.setIfInBounds_toArray, List.set_cons_zero, List.set_cons_succ]
    refine wpAnyH_take (i := 8) (oi := _) (v := ?v8) rfl (by kernel_rfl) (by kernel_rfl) (by kernel_rfl) (fun _ _ _ h => h) (Or.inl ⟨by rfl, ?hy8⟩) (by assumption) ?rest8
    case hy8 => (intro w hSw; (try dsimp only at hSw); go_simp <;> with_reducible rfl)
    try simp only [Act.put, List.getElem_toArray, List.getElem_cons_succ, List.getElem_cons_zero, List.setIfInBounds_toArray, List.set_cons_zero, List.set_cons_succ]
    refine wpAnyH_take (i := 9) (oi := _) (v := ?v9) rfl (by kernel_rfl) (by kernel_rfl) (by kernel_rfl) (fun _ _ _ h => h) (Or.inl ⟨by rfl, ?hy9⟩) (by assumption) ?rest9
    case hy9 => (intro w hSw; (try dsimp only at hSw); go_simp <;> with_reducible rfl)
    try simp only [Act.put, List.getElem_toArray, List.getElem_cons_succ, List.getElem_cons_zero, List.setIfInBounds_toArray, List.set_cons_zero, List.set_cons_succ]
    refine wpAnyH_take (i := 10) (oi := _) (v := ?v10) rfl (by kernel_rfl) (by kernel_rfl) (by kernel_rfl) (fun _ _ _ h => h) (Or.inl ⟨by rfl, ?hy10⟩) (by assumption) ?rest10
    case hy10 => (intro w hSw; (try dsimp only at hSw); go_simp <;> with_reducible rfl)
    try simp only [Act.put, List.getElem_toArray, List.getElem_cons_succ, List.getElem_cons_zero, List.setIfInBounds_toArray, List.set_cons_zero, List.set_cons_succ]
    refine wpAnyH_take (i := 11) (oi := _) (v := ?v11) rfl (by kernel_rfl) (by kernel_rfl) (by kernel_rfl) (fun _ _ _ h => h) (Or.inl ⟨by rfl, ?hy11⟩) (by assumption) ?rest11
    case hy11 => (intro w hSw; (try dsimp only at hSw); go_simp <;> with_reducible rfl)
    try simp only [Act.put, List.getElem_toArray, List.getElem_cons_succ, List.getElem_cons_zero, List.setIfInBounds_toArray, List.set_cons_zero, List.set_cons_succ]
    refine wpAnyH_take (i := 12) (oi := _) (v := ?v12) rfl (by kernel_rfl) (by kernel_rfl) (by kernel_rfl) (fun _ _ _ h => h) (Or.inl ⟨by rfl, ?hy12⟩) (by assumption) ?rest12
    case hy12 => (intro w hSw; (try dsimp only at hSw); go_simp <;> with_reducible rfl)
    try simp only [Act.put, List.getElem_toArray, List.getElem_cons_succ, List.getElem_cons_zero, List.setIfInBounds_toArray, List.set_cons_zero, List.set_cons_succ]
    refine wpAnyH_take (i := 13) (oi := _) (v := ?v13) rfl (by kernel_rfl) (by kernel_rfl) (by kernel_rfl) (fun _ _ _ h => h) (Or.inl ⟨by rfl, ?hy13⟩) (by assumption) ?rest13
    case hy13 => (intro w hSw; (try dsimp only at hSw); go_simp <;> with_reducible rfl)
    try simp only [Act.put, List.getElem_toArray, List.getElem_cons_succ, List.getElem_cons_zero, List.setIfInBounds_toArray, List.set_cons_zero, List.set_cons_succ]
    refine wpAnyH_take (i := 14) (oi := _) (v := ?v14) rfl (by kernel_rfl) (by kernel_rfl) (by kernel_rfl) (fun _ _ _ h => h) (Or.inl ⟨by rfl, ?hy14⟩) (by assumption) ?rest14
    case hy14 => (intro w hSw; (try dsimp only at hSw); go_simp <;> with_reducible rfl)
    try simp only [Act.put, List.getElem_toArray, List.getElem_cons_succ, List.getElem_cons_zero, List.setIfInBounds_toArray, List.set_cons_zero, List.set_cons_succ]
    refine wpAnyH_take (i := 15) (oi := _) (v := ?v15) rfl (by kernel_rfl) (by kernel_rfl) (by kernel_rfl) (fun _ _ _ h => h) (Or.inl ⟨by rfl, ?hy15⟩) (by assumption) ?rest15
    case hy15 => (intro w hSw; (try dsimp only at hSw); go_simp <;> with_reducible rfl)
    try simp only [Act.put, List.getElem_toArray, List.getElem_cons_succ, List.getElem_cons_zero, List.setIfInBounds_toArray, List.set_cons_zero, List.set_cons_succ]
    refine wpAnyH_take (i := 16) (oi := _) (v := ?v16) rfl (by kernel_rfl) (by kernel_rfl) (by kernel_rfl) (fun _ _ _ h => h) (Or.inl ⟨by rfl, ?hy16⟩) (by assumption) ?rest16
    case hy16 => (intro w hSw; (try dsimp only at hSw); go_simp <;> with_reducible rfl)
    try simp only [Act.put, List.getElem_toArray, List.getElem_cons_succ, List.getElem_cons_zero, List.setIfInBounds_toArray, List.set_cons_zero, List.set_cons_succ]
    refine wpAnyH_take (i := 17) (oi := _) (v := ?v17) rfl (by kernel_rfl) (by kernel_rfl) (by kernel_rfl) (fun _ _ _ h => h) (Or.inl ⟨by rfl, ?hy17⟩) (by assumption) ?rest17
    case hy17 => (intro w hSw; (try dsimp only at hSw); go_simp <;> with_reducible rfl)
    try simp only [Act.put, List.getElem_toArray, List.getElem_cons_succ, List.getElem_cons_zero, List.setIfInBounds_toArray, List.set_cons_zero, List.set_cons_succ]
    refine wpAnyH_take (i := 18) (oi := _) (v := ?v18) rfl (by kernel_rfl) (by kernel_rfl) (by kernel_rfl) (fun _ _ _ h => h) (Or.inl ⟨by rfl, ?hy18⟩) (by assumption) ?rest18
    case hy18 => (intro w hSw; (try dsimp only at hSw); go_simp <;> with_reducible rfl)
    try simp only [Act.put, List.getElem_toArray, List.getElem_cons_succ, List.getElem_cons_zero, List.setIfInBounds_toArray, List.set_cons_zero, List.set_cons_succ]
    refine wpAnyH_done (by kernel_rfl) ?_ _
    go_wp2
    go_ret
    exact ⟨by simp, hB.trans (P0.mono hzN)⟩

theorem walk_chroma (x0 y0 x1 y1 rt ys cs at4 : Int) (A1 A2 A3 A4 : Option Addr) (c1 c2 c3 c4 : Nat) (z1 z2 z3 z4 : List Int) (x y : Int) (w : World) (hr1 : Hid (Reads w A1 z1)) (hl1 : Small z1) (hn1 : Hid (A1 = none → c1 = 0)) (hr2 : Hid (Reads w A2 z2)) (hl2 : Small z2) (hn2 : Hid (A2 = none → c2 = 0)) (hr3 : Hid (Reads w A3 z3)) (hl3 : Small z3) (hn3 : Hid (A3 = none → c3 = 0)) (hr4 : Hid (Reads w A4 z4)) (hl4 : Small z4) (hn4 : Hid (A4 = none → c4 = 0)) :
    Calls Try.prog 9 #[.agg #[.int .i64 x0, .int .i64 y0, .int .i64 x1, .int .i64 y1, .int .i64 rt, .int .i64 ys, .int .i64 cs, .int .i64 at4, .slice A1 z1.length c1, .slice A2 z2.length c2, .slice A3 z3.length c3, .slice A4 z4.length c4], .int .i64 x, .int .i64 y] w fun e w' => e = .returned (.bool true) ∧ Below w.heap.size w w' := by
  by_cases hF : FairF x0 y0 x1 y1 ys cs at4
  · by_cases hI : Insd x0 y0 x1 y1 x y
    · by_cases hQ : 0 ≤ rt ∧ rt ≤ 5
      · by_cases m1 : 0 ≤ x0
        · by_cases m2 : 0 ≤ y0
          · by_cases hT : Ther x0 y0 rt ys cs at4 z1.length z2.length z3.length z4.length x y
            · exact lawChroma_in x0 y0 x1 y1 rt ys cs at4 A1 A2 A3 A4 c1 c2 c3 c4 z1 z2 z3 z4 x y w hr1 hl1 hn1 hr2 hl2 hn2 hr3 hl3 hn3 hr4 hl4 hn4 hF hI hQ m1 m2 hT
            · exact lawChroma_g5 x0 y0 x1 y1 rt ys cs at4 A1 A2 A3 A4 c1 c2 c3 c4 z1 z2 z3 z4 x y w hr1 hl1 hn1 hr2 hl2 hn2 hr3 hl3 hn3 hr4 hl4 hn4 hF hI hQ m1 m2 hT
          · exact lawChroma_g4 x0 y0 x1 y1 rt ys cs at4 A1 A2 A3 A4 c1 c2 c3 c4 z1 z2 z3 z4 x y w hr1 hl1 hn1 hr2 hl2 hn2 hr3 hl3 hn3 hr4 hl4 hn4 hF hI hQ m1 (by omega)
        · exact lawChroma_g3 x0 y0 x1 y1 rt ys cs at4 A1 A2 A3 A4 c1 c2 c3 c4 z1 z2 z3 z4 x y w hr1 hl1 hn1 hr2 hl2 hn2 hr3 hl3 hn3 hr4 hl4 hn4 hF hI hQ (by omega)
      · exact lawChroma_g2 x0 y0 x1 y1 rt ys cs at4 A1 A2 A3 A4 c1 c2 c3 c4 z1 z2 z3 z4 x y w hr1 hl1 hn1 hr2 hl2 hn2 hr3 hl3 hn3 hr4 hl4 hn4 hF hI hQ
    · exact lawChroma_g1 x0 y0 x1 y1 rt ys cs at4 A1 A2 A3 A4 c1 c2 c3 c4 z1 z2 z3 z4 x y w hr1 hl1 hn1 hr2 hl2 hn2 hr3 hl3 hn3 hr4 hl4 hn4 hF hI
  · exact lawChroma_g0 x0 y0 x1 y1 rt ys cs at4 A1 A2 A3 A4 c1 c2 c3 c4 z1 z2 z3 z4 x y w hr1 hl1 hn1 hr2 hl2 hn2 hr3 hl3 hn3 hr4 hl4 hn4 hF

end Go.Proofs.Ytcomldkihibfjaa
