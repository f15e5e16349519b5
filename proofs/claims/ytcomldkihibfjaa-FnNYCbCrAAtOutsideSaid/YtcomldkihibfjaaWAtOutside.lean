/- The walk of the law FnNYCbCrAAtOutside. -/
import Derived.Test.YtcomldkihibfjaaFilmLaw
import Derived.Test.YtcomldkihibfjaaFilmAt2
namespace Go.Proofs.Ytcomldkihibfjaa
open Go.RowKit
set_option linter.unusedVariables false
set_option linter.unusedSimpArgs false


set_option maxRecDepth 100000 in
set_option maxHeartbeats 2000000 in
theorem ato_in (x0 y0 x1 y1 rt ys cs at4 : Int) (A1 A2 A3 A4 : Option Addr) (c1 c2 c3 c4 : Nat) (z1 z2 z3 z4 : List Int) (x y : Int) (w : World) (hr1 : Hid (Reads w A1 z1)) (hl1 : Small z1) (hn1 : Hid (A1 = none → c1 = 0)) (hr2 : Hid (Reads w A2 z2)) (hl2 : Small z2) (hn2 : Hid (A2 = none → c2 = 0)) (hr3 : Hid (Reads w A3 z3)) (hl3 : Small z3) (hn3 : Hid (A3 = none → c3 = 0)) (hr4 : Hid (Reads w A4 z4)) (hl4 : Small z4) (hn4 : Hid (A4 = none → c4 = 0)) (hI : Hid (Insd x0 y0 x1 y1 x y)) :
    Calls Try.prog 8 #[.agg #[.int .i64 x0, .int .i64 y0, .int .i64 x1, .int .i64 y1, .int .i64 rt, .int .i64 ys, .int .i64 cs, .int .i64 at4, .slice A1 z1.length c1, .slice A2 z2.length c2, .slice A3 z3.length c3, .slice A4 z4.length c4], .int .i64 x, .int .i64 y] w fun e w' => e = .returned (.bool true) ∧ Below w.heap.size w w' := by
  have hB : Below w.heap.size w (w.alloc (.cells #[.int .i64 x0, .int .i64 y0, .int .i64 x1, .int .i64 y1, .int .i64 rt, .int .i64 ys, .int .i64 cs, .int .i64 at4, .slice A1 z1.length c1, .slice A2 z2.length c2, .slice A3 z3.length c3, .slice A4 z4.length c4] 30)) := (Below.refl _ _).alloc (Nat.le_refl _) _
  have D0 : (w.alloc (.cells #[.int .i64 x0, .int .i64 y0, .int .i64 x1, .int .i64 y1, .int .i64 rt, .int .i64 ys, .int .i64 cs, .int .i64 at4, .slice A1 z1.length c1, .slice A2 z2.length c2, .slice A3 z3.length c3, .slice A4 z4.length c4] 30)).cell? ⟨w.heap.size, 0, none⟩ = some (.int .i64 x0) := by first | (simp; done) | go_simp
  have D1 : (w.alloc (.cells #[.int .i64 x0, .int .i64 y0, .int .i64 x1, .int .i64 y1, .int .i64 rt, .int .i64 ys, .int .i64 cs, .int .i64 at4, .slice A1 z1.length c1, .slice A2 z2.length c2, .slice A3 z3.length c3, .slice A4 z4.length c4] 30)).cell? ⟨w.heap.size, 1, none⟩ = some (.int .i64 y0) := by first | (simp; done) | go_simp
  have D2 : (w.alloc (.cells #[.int .i64 x0, .int .i64 y0, .int .i64 x1, .int .i64 y1, .int .i64 rt, .int .i64 ys, .int .i64 cs, .int .i64 at4, .slice A1 z1.length c1, .slice A2 z2.length c2, .slice A3 z3.length c3, .slice A4 z4.length c4] 30)).cell? ⟨w.heap.size, 2, none⟩ = some (.int .i64 x1) := by first | (simp; done) | go_simp
  have D3 : (w.alloc (.cells #[.int .i64 x0, .int .i64 y0, .int .i64 x1, .int .i64 y1, .int .i64 rt, .int .i64 ys, .int .i64 cs, .int .i64 at4, .slice A1 z1.length c1, .slice A2 z2.length c2, .slice A3 z3.length c3, .slice A4 z4.length c4] 30)).cell? ⟨w.heap.size, 3, none⟩ = some (.int .i64 y1) := by first | (simp; done) | go_simp
  have D4 : (w.alloc (.cells #[.int .i64 x0, .int .i64 y0, .int .i64 x1, .int .i64 y1, .int .i64 rt, .int .i64 ys, .int .i64 cs, .int .i64 at4, .slice A1 z1.length c1, .slice A2 z2.length c2, .slice A3 z3.length c3, .slice A4 z4.length c4] 30)).cell? ⟨w.heap.size, 4, none⟩ = some (.int .i64 rt) := by first | (simp; done) | go_simp
  have D5 : (w.alloc (.cells #[.int .i64 x0, .int .i64 y0, .int .i64 x1, .int .i64 y1, .int .i64 rt, .int .i64 ys, .int .i64 cs, .int .i64 at4, .slice A1 z1.length c1, .slice A2 z2.length c2, .slice A3 z3.length c3, .slice A4 z4.length c4] 30)).cell? ⟨w.heap.size, 5, none⟩ = some (.int .i64 ys) := by first | (simp; done) | go_simp
  have D6 : (w.alloc (.cells #[.int .i64 x0, .int .i64 y0, .int .i64 x1, .int .i64 y1, .int .i64 rt, .int .i64 ys, .int .i64 cs, .int .i64 at4, .slice A1 z1.length c1, .slice A2 z2.length c2, .slice A3 z3.length c3, .slice A4 z4.length c4] 30)).cell? ⟨w.heap.size, 6, none⟩ = some (.int .i64 cs) := by first | (simp; done) | go_simp
  have D7 : (w.alloc (.cells #[.int .i64 x0, .int .i64 y0, .int .i64 x1, .int .i64 y1, .int .i64 rt, .int .i64 ys, .int .i64 cs, .int .i64 at4, .slice A1 z1.length c1, .slice A2 z2.length c2, .slice A3 z3.length c3, .slice A4 z4.length c4] 30)).cell? ⟨w.heap.size, 7, none⟩ = some (.int .i64 at4) := by first | (simp; done) | go_simp
  have D8 : (w.alloc (.cells #[.int .i64 x0, .int .i64 y0, .int .i64 x1, .int .i64 y1, .int .i64 rt, .int .i64 ys, .int .i64 cs, .int .i64 at4, .slice A1 z1.length c1, .slice A2 z2.length c2, .slice A3 z3.length c3, .slice A4 z4.length c4] 30)).cell? ⟨w.heap.size, 8, none⟩ = some (.slice A1 z1.length c1) := by first | (simp; done) | go_simp
  have D9 : (w.alloc (.cells #[.int .i64 x0, .int .i64 y0, .int .i64 x1, .int .i64 y1, .int .i64 rt, .int .i64 ys, .int .i64 cs, .int .i64 at4, .slice A1 z1.length c1, .slice A2 z2.length c2, .slice A3 z3.length c3, .slice A4 z4.length c4] 30)).cell? ⟨w.heap.size, 9, none⟩ = some (.slice A2 z2.length c2) := by first | (simp; done) | go_simp
  have D10 : (w.alloc (.cells #[.int .i64 x0, .int .i64 y0, .int .i64 x1, .int .i64 y1, .int .i64 rt, .int .i64 ys, .int .i64 cs, .int .i64 at4, .slice A1 z1.length c1, .slice A2 z2.length c2, .slice A3 z3.length c3, .slice A4 z4.length c4] 30)).cell? ⟨w.heap.size, 10, none⟩ = some (.slice A3 z3.length c3) := by first | (simp; done) | go_simp
  have D11 : (w.alloc (.cells #[.int .i64 x0, .int .i64 y0, .int .i64 x1, .int .i64 y1, .int .i64 rt, .int .i64 ys, .int .i64 cs, .int .i64 at4, .slice A1 z1.length c1, .slice A2 z2.length c2, .slice A3 z3.length c3, .slice A4 z4.length c4] 30)).cell? ⟨w.heap.size, 11, none⟩ = some (.slice A4 z4.length c4) := by first | (simp; done) | go_simp
  have HR1 := Lib.hid (hr1.out.below hB)
  have HR2 := Lib.hid (hr2.out.below hB)
  have HR3 := Lib.hid (hr3.out.below hB)
  have HR4 := Lib.hid (hr4.out.below hB)
  go_enter Try.func8, Try.ntmps8
  go_wp2_with fail
  generalize w.alloc (.cells #[.int .i64 x0, .int .i64 y0, .int .i64 x1, .int .i64 y1, .int .i64 rt, .int .i64 ys, .int .i64 cs, .int .i64 at4, .slice A1 z1.length c1, .slice A2 z2.length c2, .slice A3 z3.length c3, .slice A4 z4.length c4] 30) = W0 at *
  go_wp2_with fail
  refine (inside_any x0 y0 x1 y1 x y true (by simp [hI.out]) _).mono ?_
  rintro e w1 ⟨rfl, hb1⟩
  replace D0 := cell_kept D0 hb1
  replace D1 := cell_kept D1 hb1
  replace D2 := cell_kept D2 hb1
  replace D3 := cell_kept D3 hb1
  replace D4 := cell_kept D4 hb1
  replace D5 := cell_kept D5 hb1
  replace D6 := cell_kept D6 hb1
  replace D7 := cell_kept D7 hb1
  replace D8 := cell_kept D8 hb1
  replace D9 := cell_kept D9 hb1
  replace D10 := cell_kept D10 hb1
  replace D11 := cell_kept D11 hb1
  replace HR1 := Lib.hid (HR1.out.below hb1)
  replace HR2 := Lib.hid (HR2.out.below hb1)
  replace HR3 := Lib.hid (HR3.out.below hb1)
  replace HR4 := Lib.hid (HR4.out.below hb1)
  replace hB := hB.trans (hb1.mono hB.size)
  clear hb1
  go_wp2
  go_ret
  exact ⟨by simp, hB⟩

set_option maxRecDepth 100000 in
set_option maxHeartbeats 2000000 in
theorem ato_far (x0 y0 x1 y1 rt ys cs at4 : Int) (A1 A2 A3 A4 : Option Addr) (c1 c2 c3 c4 : Nat) (z1 z2 z3 z4 : List Int) (x y : Int) (w : World) (hr1 : Hid (Reads w A1 z1)) (hl1 : Small z1) (hn1 : Hid (A1 = none → c1 = 0)) (hr2 : Hid (Reads w A2 z2)) (hl2 : Small z2) (hn2 : Hid (A2 = none → c2 = 0)) (hr3 : Hid (Reads w A3 z3)) (hl3 : Small z3) (hn3 : Hid (A3 = none → c3 = 0)) (hr4 : Hid (Reads w A4 z4)) (hl4 : Small z4) (hn4 : Hid (A4 = none → c4 = 0)) (hI : Hid (¬ Insd x0 y0 x1 y1 x y)) (hN : Hid (¬ (Near x ∧ Near y))) :
    Calls Try.prog 8 #[.agg #[.int .i64 x0, .int .i64 y0, .int .i64 x1, .int .i64 y1, .int .i64 rt, .int .i64 ys, .int .i64 cs, .int .i64 at4, .slice A1 z1.length c1, .slice A2 z2.length c2, .slice A3 z3.length c3, .slice A4 z4.length c4], .int .i64 x, .int .i64 y] w fun e w' => e = .returned (.bool true) ∧ Below w.heap.size w w' := by
  have hB : Below w.heap.size w (w.alloc (.cells #[.int .i64 x0, .int .i64 y0, .int .i64 x1, .int .i64 y1, .int .i64 rt, .int .i64 ys, .int .i64 cs, .int .i64 at4, .slice A1 z1.length c1, .slice A2 z2.length c2, .slice A3 z3.length c3, .slice A4 z4.length c4] 30)) := (Below.refl _ _).alloc (Nat.le_refl _) _
  have D0 : (w.alloc (.cells #[.int .i64 x0, .int .i64 y0, .int .i64 x1, .int .i64 y1, .int .i64 rt, .int .i64 ys, .int .i64 cs, .int .i64 at4, .slice A1 z1.length c1, .slice A2 z2.length c2, .slice A3 z3.length c3, .slice A4 z4.length c4] 30)).cell? ⟨w.heap.size, 0, none⟩ = some (.int .i64 x0) := by first | (simp; done) | go_simp
  have D1 : (w.alloc (.cells #[.int .i64 x0, .int .i64 y0, .int .i64 x1, .int .i64 y1, .int .i64 rt, .int .i64 ys, .int .i64 cs, .int .i64 at4, .slice A1 z1.length c1, .slice A2 z2.length c2, .slice A3 z3.length c3, .slice A4 z4.length c4] 30)).cell? ⟨w.heap.size, 1, none⟩ = some (.int .i64 y0) := by first | (simp; done) | go_simp
  have D2 : (w.alloc (.cells #[.int .i64 x0, .int .i64 y0, .int .i64 x1, .int .i64 y1, .int .i64 rt, .int .i64 ys, .int .i64 cs, .int .i64 at4, .slice A1 z1.length c1, .slice A2 z2.length c2, .slice A3 z3.length c3, .slice A4 z4.length c4] 30)).cell? ⟨w.heap.size, 2, none⟩ = some (.int .i64 x1) := by first | (simp; done) | go_simp
  have D3 : (w.alloc (.cells #[.int .i64 x0, .int .i64 y0, .int .i64 x1, .int .i64 y1, .int .i64 rt, .int .i64 ys, .int .i64 cs, .int .i64 at4, .slice A1 z1.length c1, .slice A2 z2.length c2, .slice A3 z3.length c3, .slice A4 z4.length c4] 30)).cell? ⟨w.heap.size, 3, none⟩ = some (.int .i64 y1) := by first | (simp; done) | go_simp
  have D4 : (w.alloc (.cells #[.int .i64 x0, .int .i64 y0, .int .i64 x1, .int .i64 y1, .int .i64 rt, .int .i64 ys, .int .i64 cs, .int .i64 at4, .slice A1 z1.length c1, .slice A2 z2.length c2, .slice A3 z3.length c3, .slice A4 z4.length c4] 30)).cell? ⟨w.heap.size, 4, none⟩ = some (.int .i64 rt) := by first | (simp; done) | go_simp
  have D5 : (w.alloc (.cells #[.int .i64 x0, .int .i64 y0, .int .i64 x1, .int .i64 y1, .int .i64 rt, .int .i64 ys, .int .i64 cs, .int .i64 at4, .slice A1 z1.length c1, .slice A2 z2.length c2, .slice A3 z3.length c3, .slice A4 z4.length c4] 30)).cell? ⟨w.heap.size, 5, none⟩ = some (.int .i64 ys) := by first | (simp; done) | go_simp
  have D6 : (w.alloc (.cells #[.int .i64 x0, .int .i64 y0, .int .i64 x1, .int .i64 y1, .int .i64 rt, .int .i64 ys, .int .i64 cs, .int .i64 at4, .slice A1 z1.length c1, .slice A2 z2.length c2, .slice A3 z3.length c3, .slice A4 z4.length c4] 30)).cell? ⟨w.heap.size, 6, none⟩ = some (.int .i64 cs) := by first | (simp; done) | go_simp
  have D7 : (w.alloc (.cells #[.int .i64 x0, .int .i64 y0, .int .i64 x1, .int .i64 y1, .int .i64 rt, .int .i64 ys, .int .i64 cs, .int .i64 at4, .slice A1 z1.length c1, .slice A2 z2.length c2, .slice A3 z3.length c3, .slice A4 z4.length c4] 30)).cell? ⟨w.heap.size, 7, none⟩ = some (.int .i64 at4) := by first | (simp; done) | go_simp
  have D8 : (w.alloc (.cells #[.int .i64 x0, .int .i64 y0, .int .i64 x1, .int .i64 y1, .int .i64 rt, .int .i64 ys, .int .i64 cs, .int .i64 at4, .slice A1 z1.length c1, .slice A2 z2.length c2, .slice A3 z3.length c3, .slice A4 z4.length c4] 30)).cell? ⟨w.heap.size, 8, none⟩ = some (.slice A1 z1.length c1) := by first | (simp; done) | go_simp
  have D9 : (w.alloc (.cells #[.int .i64 x0, .int .i64 y0, .int .i64 x1, .int .i64 y1, .int .i64 rt, .int .i64 ys, .int .i64 cs, .int .i64 at4, .slice A1 z1.length c1, .slice A2 z2.length c2, .slice A3 z3.length c3, .slice A4 z4.length c4] 30)).cell? ⟨w.heap.size, 9, none⟩ = some (.slice A2 z2.length c2) := by first | (simp; done) | go_simp
  have D10 : (w.alloc (.cells #[.int .i64 x0, .int .i64 y0, .int .i64 x1, .int .i64 y1, .int .i64 rt, .int .i64 ys, .int .i64 cs, .int .i64 at4, .slice A1 z1.length c1, .slice A2 z2.length c2, .slice A3 z3.length c3, .slice A4 z4.length c4] 30)).cell? ⟨w.heap.size, 10, none⟩ = some (.slice A3 z3.length c3) := by first | (simp; done) | go_simp
  have D11 : (w.alloc (.cells #[.int .i64 x0, .int .i64 y0, .int .i64 x1, .int .i64 y1, .int .i64 rt, .int .i64 ys, .int .i64 cs, .int .i64 at4, .slice A1 z1.length c1, .slice A2 z2.length c2, .slice A3 z3.length c3, .slice A4 z4.length c4] 30)).cell? ⟨w.heap.size, 11, none⟩ = some (.slice A4 z4.length c4) := by first | (simp; done) | go_simp
  have HR1 := Lib.hid (hr1.out.below hB)
  have HR2 := Lib.hid (hr2.out.below hB)
  have HR3 := Lib.hid (hr3.out.below hB)
  have HR4 := Lib.hid (hr4.out.below hB)
  go_enter Try.func8, Try.ntmps8
  go_wp2_with fail
  generalize w.alloc (.cells #[.int .i64 x0, .int .i64 y0, .int .i64 x1, .int .i64 y1, .int .i64 rt, .int .i64 ys, .int .i64 cs, .int .i64 at4, .slice A1 z1.length c1, .slice A2 z2.length c2, .slice A3 z3.length c3, .slice A4 z4.length c4] 30) = W0 at *
  go_wp2_with fail
  refine (inside_any x0 y0 x1 y1 x y false (by simp [hI.out]) _).mono ?_
  rintro e w1 ⟨rfl, hb1⟩
  replace D0 := cell_kept D0 hb1
  replace D1 := cell_kept D1 hb1
  replace D2 := cell_kept D2 hb1
  replace D3 := cell_kept D3 hb1
  replace D4 := cell_kept D4 hb1
  replace D5 := cell_kept D5 hb1
  replace D6 := cell_kept D6 hb1
  replace D7 := cell_kept D7 hb1
  replace D8 := cell_kept D8 hb1
  replace D9 := cell_kept D9 hb1
  replace D10 := cell_kept D10 hb1
  replace D11 := cell_kept D11 hb1
  replace HR1 := Lib.hid (HR1.out.below hb1)
  replace HR2 := Lib.hid (HR2.out.below hb1)
  replace HR3 := Lib.hid (HR3.out.below hb1)
  replace HR4 := Lib.hid (HR4.out.below hb1)
  replace hB := hB.trans (hb1.mono hB.size)
  clear hb1
  go_wp2_with fail
  refine (nearPoint_any x y false (by simp [hN.out]) _).mono ?_
  rintro e w' ⟨rfl, rfl⟩
  go_wp2
  go_ret
  exact ⟨by simp, hB⟩
theorem reads_one {w : World} {a : Nat} {v : Int} (h : w.cell? ⟨a, 0, none⟩ = some (.int .u8 v)) : Reads w (some ⟨a, 0, none⟩) [v] := by
  refine ⟨fun e => (by cases e), fun ad e j hj => ?_⟩
  injection e with e
  subst e
  obtain rfl : j = 0 := by simpa using hj
  simpa [Addr.add] using h
theorem one_small {v : Int} : Small [v] := by unfold Small; simp

set_option maxRecDepth 100000 in
set_option maxHeartbeats 2000000 in
theorem ato_out (x0 y0 x1 y1 rt ys cs at4 : Int) (A1 A2 A3 A4 : Option Addr) (c1 c2 c3 c4 : Nat) (z1 z2 z3 z4 : List Int) (x y : Int) (w : World) (hr1 : Hid (Reads w A1 z1)) (hl1 : Small z1) (hn1 : Hid (A1 = none → c1 = 0)) (hr2 : Hid (Reads w A2 z2)) (hl2 : Small z2) (hn2 : Hid (A2 = none → c2 = 0)) (hr3 : Hid (Reads w A3 z3)) (hl3 : Small z3) (hn3 : Hid (A3 = none → c3 = 0)) (hr4 : Hid (Reads w A4 z4)) (hl4 : Small z4) (hn4 : Hid (A4 = none → c4 = 0)) (hI : Hid (¬ Insd x0 y0 x1 y1 x y)) (hN : Hid (Near x ∧ Near y)) :
    Calls Try.prog 8 #[.agg #[.int .i64 x0, .int .i64 y0, .int .i64 x1, .int .i64 y1, .int .i64 rt, .int .i64 ys, .int .i64 cs, .int .i64 at4, .slice A1 z1.length c1, .slice A2 z2.length c2, .slice A3 z3.length c3, .slice A4 z4.length c4], .int .i64 x, .int .i64 y] w fun e w' => e = .returned (.bool true) ∧ Below w.heap.size w w' := by
  have KC : Hid (∀ (g : Nat) (A1 A2 A3 A4 : Option Addr) (c1 c2 c3 c4 : Nat) (W : World), W.heap[g]? = some (.cells #[.slice A1 [(1 : Int)].length c1, .slice A2 [(2 : Int)].length c2, .slice A3 [(3 : Int)].length c3, .int .i64 1, .int .i64 1, .int .i64 0, .int .i64 x, .int .i64 y, .int .i64 (x + 1), .int .i64 (y + 1), .slice A4 [(4 : Int)].length c4, .int .i64 1] 83 (0, 0)) → Calls Try.prog 52 #[.pointer (some ⟨g, 0, none⟩), .int .i64 x, .int .i64 y] W fun e w' => e = .returned (.int .i64 ((0 : Nat) : Int)) ∧ ∃ n, w' = W.drewN n) := fun g A1 A2 A3 A4 c1 c2 c3 c4 W hW => by
    have := cOffset_0 g x y (x + 1) (y + 1) 1 1 1 A1 A2 A3 A4 c1 c2 c3 c4 [1] [2] [3] [4] x y W hW (by omega) (by omega) (by omega) (by omega) (by omega) (by omega)
    have e : (y - y) * 1 + (x - x) = ((0 : Nat) : Int) := by omega
    rw [e] at this
    exact this
  have hB : Below w.heap.size w (w.alloc (.cells #[.int .i64 x0, .int .i64 y0, .int .i64 x1, .int .i64 y1, .int .i64 rt, .int .i64 ys, .int .i64 cs, .int .i64 at4, .slice A1 z1.length c1, .slice A2 z2.length c2, .slice A3 z3.length c3, .slice A4 z4.length c4] 30)) := (Below.refl _ _).alloc (Nat.le_refl _) _
  have D0 : (w.alloc (.cells #[.int .i64 x0, .int .i64 y0, .int .i64 x1, .int .i64 y1, .int .i64 rt, .int .i64 ys, .int .i64 cs, .int .i64 at4, .slice A1 z1.length c1, .slice A2 z2.length c2, .slice A3 z3.length c3, .slice A4 z4.length c4] 30)).cell? ⟨w.heap.size, 0, none⟩ = some (.int .i64 x0) := by first | (simp; done) | go_simp
  have D1 : (w.alloc (.cells #[.int .i64 x0, .int .i64 y0, .int .i64 x1, .int .i64 y1, .int .i64 rt, .int .i64 ys, .int .i64 cs, .int .i64 at4, .slice A1 z1.length c1, .slice A2 z2.length c2, .slice A3 z3.length c3, .slice A4 z4.length c4] 30)).cell? ⟨w.heap.size, 1, none⟩ = some (.int .i64 y0) := by first | (simp; done) | go_simp
  have D2 : (w.alloc (.cells #[.int .i64 x0, .int .i64 y0, .int .i64 x1, .int .i64 y1, .int .i64 rt, .int .i64 ys, .int .i64 cs, .int .i64 at4, .slice A1 z1.length c1, .slice A2 z2.length c2, .slice A3 z3.length c3, .slice A4 z4.length c4] 30)).cell? ⟨w.heap.size, 2, none⟩ = some (.int .i64 x1) := by first | (simp; done) | go_simp
  have D3 : (w.alloc (.cells #[.int .i64 x0, .int .i64 y0, .int .i64 x1, .int .i64 y1, .int .i64 rt, .int .i64 ys, .int .i64 cs, .int .i64 at4, .slice A1 z1.length c1, .slice A2 z2.length c2, .slice A3 z3.length c3, .slice A4 z4.length c4] 30)).cell? ⟨w.heap.size, 3, none⟩ = some (.int .i64 y1) := by first | (simp; done) | go_simp
  have D4 : (w.alloc (.cells #[.int .i64 x0, .int .i64 y0, .int .i64 x1, .int .i64 y1, .int .i64 rt, .int .i64 ys, .int .i64 cs, .int .i64 at4, .slice A1 z1.length c1, .slice A2 z2.length c2, .slice A3 z3.length c3, .slice A4 z4.length c4] 30)).cell? ⟨w.heap.size, 4, none⟩ = some (.int .i64 rt) := by first | (simp; done) | go_simp
  have D5 : (w.alloc (.cells #[.int .i64 x0, .int .i64 y0, .int .i64 x1, .int .i64 y1, .int .i64 rt, .int .i64 ys, .int .i64 cs, .int .i64 at4, .slice A1 z1.length c1, .slice A2 z2.length c2, .slice A3 z3.length c3, .slice A4 z4.length c4] 30)).cell? ⟨w.heap.size, 5, none⟩ = some (.int .i64 ys) := by first | (simp; done) | go_simp
  have D6 : (w.alloc (.cells #[.int .i64 x0, .int .i64 y0, .int .i64 x1, .int .i64 y1, .int .i64 rt, .int .i64 ys, .int .i64 cs, .int .i64 at4, .slice A1 z1.length c1, .slice A2 z2.length c2, .slice A3 z3.length c3, .slice A4 z4.length c4] 30)).cell? ⟨w.heap.size, 6, none⟩ = some (.int .i64 cs) := by first | (simp; done) | go_simp
  have D7 : (w.alloc (.cells #[.int .i64 x0, .int .i64 y0, .int .i64 x1, .int .i64 y1, .int .i64 rt, .int .i64 ys, .int .i64 cs, .int .i64 at4, .slice A1 z1.length c1, .slice A2 z2.length c2, .slice A3 z3.length c3, .slice A4 z4.length c4] 30)).cell? ⟨w.heap.size, 7, none⟩ = some (.int .i64 at4) := by first | (simp; done) | go_simp
  have D8 : (w.alloc (.cells #[.int .i64 x0, .int .i64 y0, .int .i64 x1, .int .i64 y1, .int .i64 rt, .int .i64 ys, .int .i64 cs, .int .i64 at4, .slice A1 z1.length c1, .slice A2 z2.length c2, .slice A3 z3.length c3, .slice A4 z4.length c4] 30)).cell? ⟨w.heap.size, 8, none⟩ = some (.slice A1 z1.length c1) := by first | (simp; done) | go_simp
  have D9 : (w.alloc (.cells #[.int .i64 x0, .int .i64 y0, .int .i64 x1, .int .i64 y1, .int .i64 rt, .int .i64 ys, .int .i64 cs, .int .i64 at4, .slice A1 z1.length c1, .slice A2 z2.length c2, .slice A3 z3.length c3, .slice A4 z4.length c4] 30)).cell? ⟨w.heap.size, 9, none⟩ = some (.slice A2 z2.length c2) := by first | (simp; done) | go_simp
  have D10 : (w.alloc (.cells #[.int .i64 x0, .int .i64 y0, .int .i64 x1, .int .i64 y1, .int .i64 rt, .int .i64 ys, .int .i64 cs, .int .i64 at4, .slice A1 z1.length c1, .slice A2 z2.length c2, .slice A3 z3.length c3, .slice A4 z4.length c4] 30)).cell? ⟨w.heap.size, 10, none⟩ = some (.slice A3 z3.length c3) := by first | (simp; done) | go_simp
  have D11 : (w.alloc (.cells #[.int .i64 x0, .int .i64 y0, .int .i64 x1, .int .i64 y1, .int .i64 rt, .int .i64 ys, .int .i64 cs, .int .i64 at4, .slice A1 z1.length c1, .slice A2 z2.length c2, .slice A3 z3.length c3, .slice A4 z4.length c4] 30)).cell? ⟨w.heap.size, 11, none⟩ = some (.slice A4 z4.length c4) := by first | (simp; done) | go_simp
  have HR1 := Lib.hid (hr1.out.below hB)
  have HR2 := Lib.hid (hr2.out.below hB)
  have HR3 := Lib.hid (hr3.out.below hB)
  have HR4 := Lib.hid (hr4.out.below hB)
  go_enter Try.func8, Try.ntmps8
  go_wp2_with fail
  generalize w.alloc (.cells #[.int .i64 x0, .int .i64 y0, .int .i64 x1, .int .i64 y1, .int .i64 rt, .int .i64 ys, .int .i64 cs, .int .i64 at4, .slice A1 z1.length c1, .slice A2 z2.length c2, .slice A3 z3.length c3, .slice A4 z4.length c4] 30) = W0 at *
  go_wp2_with fail
  refine (inside_any x0 y0 x1 y1 x y false (by simp [hI.out]) _).mono ?_
  rintro e w1 ⟨rfl, hb1⟩
  replace D0 := cell_kept D0 hb1
  replace D1 := cell_kept D1 hb1
  replace D2 := cell_kept D2 hb1
  replace D3 := cell_kept D3 hb1
  replace D4 := cell_kept D4 hb1
  replace D5 := cell_kept D5 hb1
  replace D6 := cell_kept D6 hb1
  replace D7 := cell_kept D7 hb1
  replace D8 := cell_kept D8 hb1
  replace D9 := cell_kept D9 hb1
  replace D10 := cell_kept D10 hb1
  replace D11 := cell_kept D11 hb1
  replace HR1 := Lib.hid (HR1.out.below hb1)
  replace HR2 := Lib.hid (HR2.out.below hb1)
  replace HR3 := Lib.hid (HR3.out.below hb1)
  replace HR4 := Lib.hid (HR4.out.below hb1)
  replace hB := hB.trans (hb1.mono hB.size)
  clear hb1
  go_wp2_with fail
  refine (nearPoint_any x y true (by simp [hN.out]) _).mono ?_
  rintro e w' ⟨rfl, rfl⟩
  obtain ⟨⟨n1, n2⟩, ⟨n3, n4⟩⟩ := id hN.out
  have aw : Below w1.heap.size w1 (((((w1.alloc (.cells #[.int .u8 1] 5)).alloc (.cells #[.int .u8 2] 5)).alloc (.cells #[.int .u8 3] 5)).alloc (.cells #[.int .u8 4] 5)).alloc (.cells #[.int .i64 x, .int .i64 y, .int .i64 (x + 1), .int .i64 (y + 1), .int .i64 0, .int .i64 1, .int .i64 1, .int .i64 1, .slice (some ⟨w1.heap.size, 0, none⟩) 1 1, .slice (some ⟨w1.heap.size + 1, 0, none⟩) 1 1, .slice (some ⟨w1.heap.size + 2, 0, none⟩) 1 1, .slice (some ⟨w1.heap.size + 3, 0, none⟩) 1 1] 30)) := (((((Below.refl _ _).alloc (Nat.le_refl _) _).alloc (by simp) _).alloc (by simp; omega) _).alloc (by simp; omega) _).alloc (by simp; omega) _
  replace D0 := cell_kept D0 aw
  replace D1 := cell_kept D1 aw
  replace D2 := cell_kept D2 aw
  replace D3 := cell_kept D3 aw
  replace D4 := cell_kept D4 aw
  replace D5 := cell_kept D5 aw
  replace D6 := cell_kept D6 aw
  replace D7 := cell_kept D7 aw
  replace D8 := cell_kept D8 aw
  replace D9 := cell_kept D9 aw
  replace D10 := cell_kept D10 aw
  replace D11 := cell_kept D11 aw
  replace HR1 := Lib.hid (HR1.out.below aw)
  replace HR2 := Lib.hid (HR2.out.below aw)
  replace HR3 := Lib.hid (HR3.out.below aw)
  replace HR4 := Lib.hid (HR4.out.below aw)
  replace hB := hB.trans (aw.mono hB.size)
  clear aw
  have s0 : (((((w1.alloc (.cells #[.int .u8 1] 5)).alloc (.cells #[.int .u8 2] 5)).alloc (.cells #[.int .u8 3] 5)).alloc (.cells #[.int .u8 4] 5)).alloc (.cells #[.int .i64 x, .int .i64 y, .int .i64 (x + 1), .int .i64 (y + 1), .int .i64 0, .int .i64 1, .int .i64 1, .int .i64 1, .slice (some ⟨w1.heap.size, 0, none⟩) 1 1, .slice (some ⟨w1.heap.size + 1, 0, none⟩) 1 1, .slice (some ⟨w1.heap.size + 2, 0, none⟩) 1 1, .slice (some ⟨w1.heap.size + 3, 0, none⟩) 1 1] 30)).cell? ⟨w1.heap.size, 0, none⟩ = some (.int .u8 1) := by first | (simp; done) | go_simp
  have s1 : (((((w1.alloc (.cells #[.int .u8 1] 5)).alloc (.cells #[.int .u8 2] 5)).alloc (.cells #[.int .u8 3] 5)).alloc (.cells #[.int .u8 4] 5)).alloc (.cells #[.int .i64 x, .int .i64 y, .int .i64 (x + 1), .int .i64 (y + 1), .int .i64 0, .int .i64 1, .int .i64 1, .int .i64 1, .slice (some ⟨w1.heap.size, 0, none⟩) 1 1, .slice (some ⟨w1.heap.size + 1, 0, none⟩) 1 1, .slice (some ⟨w1.heap.size + 2, 0, none⟩) 1 1, .slice (some ⟨w1.heap.size + 3, 0, none⟩) 1 1] 30)).cell? ⟨w1.heap.size + 1, 0, none⟩ = some (.int .u8 2) := by first | (simp; done) | go_simp
  have s2 : (((((w1.alloc (.cells #[.int .u8 1] 5)).alloc (.cells #[.int .u8 2] 5)).alloc (.cells #[.int .u8 3] 5)).alloc (.cells #[.int .u8 4] 5)).alloc (.cells #[.int .i64 x, .int .i64 y, .int .i64 (x + 1), .int .i64 (y + 1), .int .i64 0, .int .i64 1, .int .i64 1, .int .i64 1, .slice (some ⟨w1.heap.size, 0, none⟩) 1 1, .slice (some ⟨w1.heap.size + 1, 0, none⟩) 1 1, .slice (some ⟨w1.heap.size + 2, 0, none⟩) 1 1, .slice (some ⟨w1.heap.size + 3, 0, none⟩) 1 1] 30)).cell? ⟨w1.heap.size + 2, 0, none⟩ = some (.int .u8 3) := by first | (simp; done) | go_simp
  have s3 : (((((w1.alloc (.cells #[.int .u8 1] 5)).alloc (.cells #[.int .u8 2] 5)).alloc (.cells #[.int .u8 3] 5)).alloc (.cells #[.int .u8 4] 5)).alloc (.cells #[.int .i64 x, .int .i64 y, .int .i64 (x + 1), .int .i64 (y + 1), .int .i64 0, .int .i64 1, .int .i64 1, .int .i64 1, .slice (some ⟨w1.heap.size, 0, none⟩) 1 1, .slice (some ⟨w1.heap.size + 1, 0, none⟩) 1 1, .slice (some ⟨w1.heap.size + 2, 0, none⟩) 1 1, .slice (some ⟨w1.heap.size + 3, 0, none⟩) 1 1] 30)).cell? ⟨w1.heap.size + 3, 0, none⟩ = some (.int .u8 4) := by first | (simp; done) | go_simp
  have O0 : (((((w1.alloc (.cells #[.int .u8 1] 5)).alloc (.cells #[.int .u8 2] 5)).alloc (.cells #[.int .u8 3] 5)).alloc (.cells #[.int .u8 4] 5)).alloc (.cells #[.int .i64 x, .int .i64 y, .int .i64 (x + 1), .int .i64 (y + 1), .int .i64 0, .int .i64 1, .int .i64 1, .int .i64 1, .slice (some ⟨w1.heap.size, 0, none⟩) 1 1, .slice (some ⟨w1.heap.size + 1, 0, none⟩) 1 1, .slice (some ⟨w1.heap.size + 2, 0, none⟩) 1 1, .slice (some ⟨w1.heap.size + 3, 0, none⟩) 1 1] 30)).cell? ⟨w1.heap.size + 4, 0, none⟩ = some (.int .i64 x) := by first | (simp; done) | go_simp
  have O1 : (((((w1.alloc (.cells #[.int .u8 1] 5)).alloc (.cells #[.int .u8 2] 5)).alloc (.cells #[.int .u8 3] 5)).alloc (.cells #[.int .u8 4] 5)).alloc (.cells #[.int .i64 x, .int .i64 y, .int .i64 (x + 1), .int .i64 (y + 1), .int .i64 0, .int .i64 1, .int .i64 1, .int .i64 1, .slice (some ⟨w1.heap.size, 0, none⟩) 1 1, .slice (some ⟨w1.heap.size + 1, 0, none⟩) 1 1, .slice (some ⟨w1.heap.size + 2, 0, none⟩) 1 1, .slice (some ⟨w1.heap.size + 3, 0, none⟩) 1 1] 30)).cell? ⟨w1.heap.size + 4, 1, none⟩ = some (.int .i64 y) := by first | (simp; done) | go_simp
  have O2 : (((((w1.alloc (.cells #[.int .u8 1] 5)).alloc (.cells #[.int .u8 2] 5)).alloc (.cells #[.int .u8 3] 5)).alloc (.cells #[.int .u8 4] 5)).alloc (.cells #[.int .i64 x, .int .i64 y, .int .i64 (x + 1), .int .i64 (y + 1), .int .i64 0, .int .i64 1, .int .i64 1, .int .i64 1, .slice (some ⟨w1.heap.size, 0, none⟩) 1 1, .slice (some ⟨w1.heap.size + 1, 0, none⟩) 1 1, .slice (some ⟨w1.heap.size + 2, 0, none⟩) 1 1, .slice (some ⟨w1.heap.size + 3, 0, none⟩) 1 1] 30)).cell? ⟨w1.heap.size + 4, 2, none⟩ = some (.int .i64 (x + 1)) := by first | (simp; done) | go_simp
  have O3 : (((((w1.alloc (.cells #[.int .u8 1] 5)).alloc (.cells #[.int .u8 2] 5)).alloc (.cells #[.int .u8 3] 5)).alloc (.cells #[.int .u8 4] 5)).alloc (.cells #[.int .i64 x, .int .i64 y, .int .i64 (x + 1), .int .i64 (y + 1), .int .i64 0, .int .i64 1, .int .i64 1, .int .i64 1, .slice (some ⟨w1.heap.size, 0, none⟩) 1 1, .slice (some ⟨w1.heap.size + 1, 0, none⟩) 1 1, .slice (some ⟨w1.heap.size + 2, 0, none⟩) 1 1, .slice (some ⟨w1.heap.size + 3, 0, none⟩) 1 1] 30)).cell? ⟨w1.heap.size + 4, 3, none⟩ = some (.int .i64 (y + 1)) := by first | (simp; done) | go_simp
  have O4 : (((((w1.alloc (.cells #[.int .u8 1] 5)).alloc (.cells #[.int .u8 2] 5)).alloc (.cells #[.int .u8 3] 5)).alloc (.cells #[.int .u8 4] 5)).alloc (.cells #[.int .i64 x, .int .i64 y, .int .i64 (x + 1), .int .i64 (y + 1), .int .i64 0, .int .i64 1, .int .i64 1, .int .i64 1, .slice (some ⟨w1.heap.size, 0, none⟩) 1 1, .slice (some ⟨w1.heap.size + 1, 0, none⟩) 1 1, .slice (some ⟨w1.heap.size + 2, 0, none⟩) 1 1, .slice (some ⟨w1.heap.size + 3, 0, none⟩) 1 1] 30)).cell? ⟨w1.heap.size + 4, 4, none⟩ = some (.int .i64 0) := by first | (simp; done) | go_simp
  have O5 : (((((w1.alloc (.cells #[.int .u8 1] 5)).alloc (.cells #[.int .u8 2] 5)).alloc (.cells #[.int .u8 3] 5)).alloc (.cells #[.int .u8 4] 5)).alloc (.cells #[.int .i64 x, .int .i64 y, .int .i64 (x + 1), .int .i64 (y + 1), .int .i64 0, .int .i64 1, .int .i64 1, .int .i64 1, .slice (some ⟨w1.heap.size, 0, none⟩) 1 1, .slice (some ⟨w1.heap.size + 1, 0, none⟩) 1 1, .slice (some ⟨w1.heap.size + 2, 0, none⟩) 1 1, .slice (some ⟨w1.heap.size + 3, 0, none⟩) 1 1] 30)).cell? ⟨w1.heap.size + 4, 5, none⟩ = some (.int .i64 1) := by first | (simp; done) | go_simp
  have O6 : (((((w1.alloc (.cells #[.int .u8 1] 5)).alloc (.cells #[.int .u8 2] 5)).alloc (.cells #[.int .u8 3] 5)).alloc (.cells #[.int .u8 4] 5)).alloc (.cells #[.int .i64 x, .int .i64 y, .int .i64 (x + 1), .int .i64 (y + 1), .int .i64 0, .int .i64 1, .int .i64 1, .int .i64 1, .slice (some ⟨w1.heap.size, 0, none⟩) 1 1, .slice (some ⟨w1.heap.size + 1, 0, none⟩) 1 1, .slice (some ⟨w1.heap.size + 2, 0, none⟩) 1 1, .slice (some ⟨w1.heap.size + 3, 0, none⟩) 1 1] 30)).cell? ⟨w1.heap.size + 4, 6, none⟩ = some (.int .i64 1) := by first | (simp; done) | go_simp
  have O7 : (((((w1.alloc (.cells #[.int .u8 1] 5)).alloc (.cells #[.int .u8 2] 5)).alloc (.cells #[.int .u8 3] 5)).alloc (.cells #[.int .u8 4] 5)).alloc (.cells #[.int .i64 x, .int .i64 y, .int .i64 (x + 1), .int .i64 (y + 1), .int .i64 0, .int .i64 1, .int .i64 1, .int .i64 1, .slice (some ⟨w1.heap.size, 0, none⟩) 1 1, .slice (some ⟨w1.heap.size + 1, 0, none⟩) 1 1, .slice (some ⟨w1.heap.size + 2, 0, none⟩) 1 1, .slice (some ⟨w1.heap.size + 3, 0, none⟩) 1 1] 30)).cell? ⟨w1.heap.size + 4, 7, none⟩ = some (.int .i64 1) := by first | (simp; done) | go_simp
  have O8 : (((((w1.alloc (.cells #[.int .u8 1] 5)).alloc (.cells #[.int .u8 2] 5)).alloc (.cells #[.int .u8 3] 5)).alloc (.cells #[.int .u8 4] 5)).alloc (.cells #[.int .i64 x, .int .i64 y, .int .i64 (x + 1), .int .i64 (y + 1), .int .i64 0, .int .i64 1, .int .i64 1, .int .i64 1, .slice (some ⟨w1.heap.size, 0, none⟩) 1 1, .slice (some ⟨w1.heap.size + 1, 0, none⟩) 1 1, .slice (some ⟨w1.heap.size + 2, 0, none⟩) 1 1, .slice (some ⟨w1.heap.size + 3, 0, none⟩) 1 1] 30)).cell? ⟨w1.heap.size + 4, 8, none⟩ = some (.slice (some ⟨w1.heap.size, 0, none⟩) 1 1) := by first | (simp; done) | go_simp
  have O9 : (((((w1.alloc (.cells #[.int .u8 1] 5)).alloc (.cells #[.int .u8 2] 5)).alloc (.cells #[.int .u8 3] 5)).alloc (.cells #[.int .u8 4] 5)).alloc (.cells #[.int .i64 x, .int .i64 y, .int .i64 (x + 1), .int .i64 (y + 1), .int .i64 0, .int .i64 1, .int .i64 1, .int .i64 1, .slice (some ⟨w1.heap.size, 0, none⟩) 1 1, .slice (some ⟨w1.heap.size + 1, 0, none⟩) 1 1, .slice (some ⟨w1.heap.size + 2, 0, none⟩) 1 1, .slice (some ⟨w1.heap.size + 3, 0, none⟩) 1 1] 30)).cell? ⟨w1.heap.size + 4, 9, none⟩ = some (.slice (some ⟨w1.heap.size + 1, 0, none⟩) 1 1) := by first | (simp; done) | go_simp
  have O10 : (((((w1.alloc (.cells #[.int .u8 1] 5)).alloc (.cells #[.int .u8 2] 5)).alloc (.cells #[.int .u8 3] 5)).alloc (.cells #[.int .u8 4] 5)).alloc (.cells #[.int .i64 x, .int .i64 y, .int .i64 (x + 1), .int .i64 (y + 1), .int .i64 0, .int .i64 1, .int .i64 1, .int .i64 1, .slice (some ⟨w1.heap.size, 0, none⟩) 1 1, .slice (some ⟨w1.heap.size + 1, 0, none⟩) 1 1, .slice (some ⟨w1.heap.size + 2, 0, none⟩) 1 1, .slice (some ⟨w1.heap.size + 3, 0, none⟩) 1 1] 30)).cell? ⟨w1.heap.size + 4, 10, none⟩ = some (.slice (some ⟨w1.heap.size + 2, 0, none⟩) 1 1) := by first | (simp; done) | go_simp
  have O11 : (((((w1.alloc (.cells #[.int .u8 1] 5)).alloc (.cells #[.int .u8 2] 5)).alloc (.cells #[.int .u8 3] 5)).alloc (.cells #[.int .u8 4] 5)).alloc (.cells #[.int .i64 x, .int .i64 y, .int .i64 (x + 1), .int .i64 (y + 1), .int .i64 0, .int .i64 1, .int .i64 1, .int .i64 1, .slice (some ⟨w1.heap.size, 0, none⟩) 1 1, .slice (some ⟨w1.heap.size + 1, 0, none⟩) 1 1, .slice (some ⟨w1.heap.size + 2, 0, none⟩) 1 1, .slice (some ⟨w1.heap.size + 3, 0, none⟩) 1 1] 30)).cell? ⟨w1.heap.size + 4, 11, none⟩ = some (.slice (some ⟨w1.heap.size + 3, 0, none⟩) 1 1) := by first | (simp; done) | go_simp
  go_wp2_with fail
  generalize (((((w1.alloc (.cells #[.int .u8 1] 5)).alloc (.cells #[.int .u8 2] 5)).alloc (.cells #[.int .u8 3] 5)).alloc (.cells #[.int .u8 4] 5)).alloc (.cells #[.int .i64 x, .int .i64 y, .int .i64 (x + 1), .int .i64 (y + 1), .int .i64 0, .int .i64 1, .int .i64 1, .int .i64 1, .slice (some ⟨w1.heap.size, 0, none⟩) 1 1, .slice (some ⟨w1.heap.size + 1, 0, none⟩) 1 1, .slice (some ⟨w1.heap.size + 2, 0, none⟩) 1 1, .slice (some ⟨w1.heap.size + 3, 0, none⟩) 1 1] 30)) = W1 at *
  generalize w1.heap.size + 4 = a5 at *
  generalize w1.heap.size + 3 = a4 at *
  generalize w1.heap.size + 2 = a3 at *
  generalize w1.heap.size + 1 = a2 at *
  generalize w1.heap.size = a1 at *
  refine (implAt_out x0 y0 x1 y1 rt ys cs at4 A1 A2 A3 A4 c1 c2 c3 c4 z1 z2 z3 z4 x y _ HR1 hl1 hn1 HR2 hl2 hn2 HR3 hl3 hn3 HR4 hl4 hn4 hI).mono ?_
  rintro e w2 ⟨rfl, hb2⟩
  replace D0 := cell_kept D0 hb2
  replace D1 := cell_kept D1 hb2
  replace D2 := cell_kept D2 hb2
  replace D3 := cell_kept D3 hb2
  replace D4 := cell_kept D4 hb2
  replace D5 := cell_kept D5 hb2
  replace D6 := cell_kept D6 hb2
  replace D7 := cell_kept D7 hb2
  replace D8 := cell_kept D8 hb2
  replace D9 := cell_kept D9 hb2
  replace D10 := cell_kept D10 hb2
  replace D11 := cell_kept D11 hb2
  replace s0 := cell_kept s0 hb2
  replace s1 := cell_kept s1 hb2
  replace s2 := cell_kept s2 hb2
  replace s3 := cell_kept s3 hb2
  replace O0 := cell_kept O0 hb2
  replace O1 := cell_kept O1 hb2
  replace O2 := cell_kept O2 hb2
  replace O3 := cell_kept O3 hb2
  replace O4 := cell_kept O4 hb2
  replace O5 := cell_kept O5 hb2
  replace O6 := cell_kept O6 hb2
  replace O7 := cell_kept O7 hb2
  replace O8 := cell_kept O8 hb2
  replace O9 := cell_kept O9 hb2
  replace O10 := cell_kept O10 hb2
  replace O11 := cell_kept O11 hb2
  replace HR1 := Lib.hid (HR1.out.below hb2)
  replace HR2 := Lib.hid (HR2.out.below hb2)
  replace HR3 := Lib.hid (HR3.out.below hb2)
  replace HR4 := Lib.hid (HR4.out.below hb2)
  replace hB := hB.trans (hb2.mono hB.size)
  clear hb2
  clear HR1 HR2 HR3 HR4
  have R1 := Lib.hid (reads_one s0)
  have R2 := Lib.hid (reads_one s1)
  have R3 := Lib.hid (reads_one s2)
  have R4 := Lib.hid (reads_one s3)
  go_wp2_with fail
  refine (implAt_in x y (x + 1) (y + 1) 0 1 1 1 (some ⟨a1, 0, none⟩) (some ⟨a2, 0, none⟩) (some ⟨a3, 0, none⟩) (some ⟨a4, 0, none⟩) 1 1 1 1 [1] [2] [3] [4] x y _ R1 one_small (show Hid _ from fun e => (by cases e)) R2 one_small (show Hid _ from fun e => (by cases e)) R3 one_small (show Hid _ from fun e => (by cases e)) R4 one_small (show Hid _ from fun e => (by cases e)) 0 0 0 1 2 3 4 (show Hid _ from rfl) (show Hid _ from rfl) (show Hid _ from rfl) (show Hid _ from rfl) (show Hid _ from (by unfold Hid Insd; omega)) (by omega) (by omega) (by omega) (by omega) (by omega) (by omega) (by omega) (by omega) (show Hid _ from (by unfold Hid; omega)) (show Hid _ from (by unfold Hid; omega)) (by simp) (by simp) (by simp) (by simp) KC).mono ?_
  rintro e w3 ⟨rfl, hb3⟩
  replace D0 := cell_kept D0 hb3
  replace D1 := cell_kept D1 hb3
  replace D2 := cell_kept D2 hb3
  replace D3 := cell_kept D3 hb3
  replace D4 := cell_kept D4 hb3
  replace D5 := cell_kept D5 hb3
  replace D6 := cell_kept D6 hb3
  replace D7 := cell_kept D7 hb3
  replace D8 := cell_kept D8 hb3
  replace D9 := cell_kept D9 hb3
  replace D10 := cell_kept D10 hb3
  replace D11 := cell_kept D11 hb3
  replace s0 := cell_kept s0 hb3
  replace s1 := cell_kept s1 hb3
  replace s2 := cell_kept s2 hb3
  replace s3 := cell_kept s3 hb3
  replace O0 := cell_kept O0 hb3
  replace O1 := cell_kept O1 hb3
  replace O2 := cell_kept O2 hb3
  replace O3 := cell_kept O3 hb3
  replace O4 := cell_kept O4 hb3
  replace O5 := cell_kept O5 hb3
  replace O6 := cell_kept O6 hb3
  replace O7 := cell_kept O7 hb3
  replace O8 := cell_kept O8 hb3
  replace O9 := cell_kept O9 hb3
  replace O10 := cell_kept O10 hb3
  replace O11 := cell_kept O11 hb3
  replace hB := hB.trans (hb3.mono hB.size)
  clear hb3
  go_wp2
  go_ret
  exact ⟨by simp, hB⟩

theorem walk_atOutside (x0 y0 x1 y1 rt ys cs at4 : Int) (A1 A2 A3 A4 : Option Addr) (c1 c2 c3 c4 : Nat) (z1 z2 z3 z4 : List Int) (x y : Int) (w : World) (hr1 : Hid (Reads w A1 z1)) (hl1 : Small z1) (hn1 : Hid (A1 = none → c1 = 0)) (hr2 : Hid (Reads w A2 z2)) (hl2 : Small z2) (hn2 : Hid (A2 = none → c2 = 0)) (hr3 : Hid (Reads w A3 z3)) (hl3 : Small z3) (hn3 : Hid (A3 = none → c3 = 0)) (hr4 : Hid (Reads w A4 z4)) (hl4 : Small z4) (hn4 : Hid (A4 = none → c4 = 0)) :
    Calls Try.prog 8 #[.agg #[.int .i64 x0, .int .i64 y0, .int .i64 x1, .int .i64 y1, .int .i64 rt, .int .i64 ys, .int .i64 cs, .int .i64 at4, .slice A1 z1.length c1, .slice A2 z2.length c2, .slice A3 z3.length c3, .slice A4 z4.length c4], .int .i64 x, .int .i64 y] w fun e w' => e = .returned (.bool true) ∧ Below w.heap.size w w' := by
  by_cases hI : Insd x0 y0 x1 y1 x y
  · exact ato_in x0 y0 x1 y1 rt ys cs at4 A1 A2 A3 A4 c1 c2 c3 c4 z1 z2 z3 z4 x y w hr1 hl1 hn1 hr2 hl2 hn2 hr3 hl3 hn3 hr4 hl4 hn4 hI
  · by_cases hN : Near x ∧ Near y
    · exact ato_out x0 y0 x1 y1 rt ys cs at4 A1 A2 A3 A4 c1 c2 c3 c4 z1 z2 z3 z4 x y w hr1 hl1 hn1 hr2 hl2 hn2 hr3 hl3 hn3 hr4 hl4 hn4 hI hN
    · exact ato_far x0 y0 x1 y1 rt ys cs at4 A1 A2 A3 A4 c1 c2 c3 c4 z1 z2 z3 z4 x y w hr1 hl1 hn1 hr2 hl2 hn2 hr3 hl3 hn3 hr4 hl4 hn4 hI hN

end Go.Proofs.Ytcomldkihibfjaa
