/- Films: impl.NYCbCrAAt. -/
import Derived.Test.YtcomldkihibfjaaFilmAt
namespace Go.Proofs.Ytcomldkihibfjaa
open Go.RowKit
set_option linter.unusedVariables false
set_option linter.unusedSimpArgs false

set_option maxRecDepth 100000 in
set_option maxHeartbeats 4000000 in
theorem atM_out (g : Nat) (x0 y0 x1 y1 rt ys cs at4 : Int) (A1 A2 A3 A4 : Option Addr) (c1 c2 c3 c4 : Nat) (z1 z2 z3 z4 : List Int) (x y : Int) (w : World) (hg : w.heap[g]? = some (.cells #[.slice A1 z1.length c1, .slice A2 z2.length c2, .slice A3 z3.length c3, .int .i64 ys, .int .i64 cs, .int .i64 rt, .int .i64 x0, .int .i64 y0, .int .i64 x1, .int .i64 y1, .slice A4 z4.length c4, .int .i64 at4] 83 (0, 0))) (hI : Hid (¬ Insd x0 y0 x1 y1 x y)) :
    Calls Try.prog 39 #[.pointer (some ⟨g, 0, none⟩), .int .i64 x, .int .i64 y] w fun e w' => e = .returned (.agg #[.int .u8 0, .int .u8 0, .int .u8 0, .int .u8 0]) ∧ Below w.heap.size w w' := by
  have g0 := cell_of_row w g 0 _ _ _ hg
  have g1 := cell_of_row w g 1 _ _ _ hg
  have g2 := cell_of_row w g 2 _ _ _ hg
  have g3 := cell_of_row w g 3 _ _ _ hg
  have g4 := cell_of_row w g 4 _ _ _ hg
  have g5 := cell_of_row w g 5 _ _ _ hg
  have g6 := cell_of_row w g 6 _ _ _ hg
  have g7 := cell_of_row w g 7 _ _ _ hg
  have g8 := cell_of_row w g 8 _ _ _ hg
  have g9 := cell_of_row w g 9 _ _ _ hg
  have g10 := cell_of_row w g 10 _ _ _ hg
  have g11 := cell_of_row w g 11 _ _ _ hg
  simp at g0 g1 g2 g3 g4 g5 g6 g7 g8 g9 g10 g11
  clear hg
  have hgl : g < w.heap.size := block_lt_of_cell g0
  go_enter Try.func39, Try.ntmps39
  go_wp2_with fail
  refine (in_any x0 y0 x1 y1 x y false (by simp [hI.out]) _).mono ?_
  rintro e w1 ⟨rfl, hb1⟩
  have hB1 : Below w.heap.size w w1 := ((Below.refl _ _).alloc (Nat.le_refl _) _).trans (hb1.mono (by simp))
  have r0 : w1.cell? ⟨w.heap.size, 0, none⟩ = some (.int .u8 0) := ((bcell hb1).1 _ 0 (by simp)).trans (by simp)
  have f0 : w1.frozen? ⟨w.heap.size, 0, none⟩ = false := ((bcell hb1).2 _ 0 (by simp)).trans (by simp)
  have r1 : w1.cell? ⟨w.heap.size, 1, none⟩ = some (.int .u8 0) := ((bcell hb1).1 _ 1 (by simp)).trans (by simp)
  have f1 : w1.frozen? ⟨w.heap.size, 1, none⟩ = false := ((bcell hb1).2 _ 1 (by simp)).trans (by simp)
  have r2 : w1.cell? ⟨w.heap.size, 2, none⟩ = some (.int .u8 0) := ((bcell hb1).1 _ 2 (by simp)).trans (by simp)
  have f2 : w1.frozen? ⟨w.heap.size, 2, none⟩ = false := ((bcell hb1).2 _ 2 (by simp)).trans (by simp)
  have r3 : w1.cell? ⟨w.heap.size, 3, none⟩ = some (.int .u8 0) := ((bcell hb1).1 _ 3 (by simp)).trans (by simp)
  have f3 : w1.frozen? ⟨w.heap.size, 3, none⟩ = false := ((bcell hb1).2 _ 3 (by simp)).trans (by simp)
  clear hb1
  go_wp2
  exact bodyPost_ret (v := .agg #[.int .u8 0, .int .u8 0, .int .u8 0, .int .u8 0]) (by simp [results, Try.results39, go_sem, r0, r1, r2, r3]) rfl ⟨rfl, (((hB1.setCell (Nat.le_refl _) _).setCell (Nat.le_refl _) _).setCell (Nat.le_refl _) _).setCell (Nat.le_refl _) _⟩

set_option maxRecDepth 100000 in
set_option maxHeartbeats 4000000 in
theorem implAt_out (x0 y0 x1 y1 rt ys cs at4 : Int) (A1 A2 A3 A4 : Option Addr) (c1 c2 c3 c4 : Nat) (z1 z2 z3 z4 : List Int) (x y : Int) (w : World) (hr1 : Hid (Reads w A1 z1)) (hl1 : Small z1) (hn1 : Hid (A1 = none → c1 = 0)) (hr2 : Hid (Reads w A2 z2)) (hl2 : Small z2) (hn2 : Hid (A2 = none → c2 = 0)) (hr3 : Hid (Reads w A3 z3)) (hl3 : Small z3) (hn3 : Hid (A3 = none → c3 = 0)) (hr4 : Hid (Reads w A4 z4)) (hl4 : Small z4) (hn4 : Hid (A4 = none → c4 = 0)) (hI : Hid (¬ Insd x0 y0 x1 y1 x y)) :
    Calls Try.prog 21 #[.agg #[.int .i64 x0, .int .i64 y0, .int .i64 x1, .int .i64 y1, .int .i64 rt, .int .i64 ys, .int .i64 cs, .int .i64 at4, .slice A1 z1.length c1, .slice A2 z2.length c2, .slice A3 z3.length c3, .slice A4 z4.length c4], .int .i64 x, .int .i64 y] w fun e w' => e = .returned (.agg #[.int .u8 0, .int .u8 0, .int .u8 0, .int .u8 0]) ∧ Below w.heap.size w w' := by
  have aw : Below w.heap.size w ((w.alloc (.cells #[.int .i64 x0, .int .i64 y0, .int .i64 x1, .int .i64 y1, .int .i64 rt, .int .i64 ys, .int .i64 cs, .int .i64 at4, .slice A1 z1.length c1, .slice A2 z2.length c2, .slice A3 z3.length c3, .slice A4 z4.length c4] 30)).alloc (.cells #[.int .u8 0, .int .u8 0, .int .u8 0, .int .u8 0] 41)) := ((Below.refl _ _).alloc (Nat.le_refl _) _).alloc (by simp) _
  have HR1 := Lib.hid (hr1.out.below aw)
  have HR2 := Lib.hid (hr2.out.below aw)
  have HR3 := Lib.hid (hr3.out.below aw)
  have HR4 := Lib.hid (hr4.out.below aw)
  go_enter Try.func21, Try.ntmps21
  go_wp2_with fail
  refine (to_any x0 y0 x1 y1 rt ys cs at4 A1 A2 A3 A4 c1 c2 c3 c4 z1 z2 z3 z4 _ HR1 hl1 hn1 HR2 hl2 hn2 HR3 hl3 hn3 HR4 hl4 hn4).mono ?_
  rintro e w1 ⟨g, B1, B2, B3, B4, e1, e2, e3, e4, rfl, hgb, hg, ho1, ho2, ho3, ho4, hb1⟩
  have HG := Lib.hid hg
  have HO1 := Lib.hid ho1
  have HO2 := Lib.hid ho2
  have HO3 := Lib.hid ho3
  have HO4 := Lib.hid ho4
  have r0 : w1.cell? ⟨w.heap.size + 1, 0, none⟩ = some (.int .u8 0) := ((bcell hb1).1 _ 0 (by simp)).trans (by first | (simp; done) | go_simp)
  have f0 : w1.frozen? ⟨w.heap.size + 1, 0, none⟩ = false := ((bcell hb1).2 _ 0 (by simp)).trans (by first | (simp; done) | go_simp)
  have r1 : w1.cell? ⟨w.heap.size + 1, 1, none⟩ = some (.int .u8 0) := ((bcell hb1).1 _ 1 (by simp)).trans (by first | (simp; done) | go_simp)
  have f1 : w1.frozen? ⟨w.heap.size + 1, 1, none⟩ = false := ((bcell hb1).2 _ 1 (by simp)).trans (by first | (simp; done) | go_simp)
  have r2 : w1.cell? ⟨w.heap.size + 1, 2, none⟩ = some (.int .u8 0) := ((bcell hb1).1 _ 2 (by simp)).trans (by first | (simp; done) | go_simp)
  have f2 : w1.frozen? ⟨w.heap.size + 1, 2, none⟩ = false := ((bcell hb1).2 _ 2 (by simp)).trans (by first | (simp; done) | go_simp)
  have r3 : w1.cell? ⟨w.heap.size + 1, 3, none⟩ = some (.int .u8 0) := ((bcell hb1).1 _ 3 (by simp)).trans (by first | (simp; done) | go_simp)
  have f3 : w1.frozen? ⟨w.heap.size + 1, 3, none⟩ = false := ((bcell hb1).2 _ 3 (by simp)).trans (by first | (simp; done) | go_simp)
  have hB1 : Below w.heap.size w w1 := aw.trans (hb1.mono (by simp; omega))
  have hz1 : w.heap.size + 1 < w1.heap.size := Nat.lt_of_lt_of_le (by simp) hb1.size
  clear hg ho1 ho2 ho3 ho4 hb1 aw
  go_wp2_with fail
  refine (atM_out g x0 y0 x1 y1 rt ys cs at4 B1 B2 B3 B4 e1 e2 e3 e4 z1 z2 z3 z4 x y _ HG.out hI).mono ?_
  rintro e w2 ⟨rfl, hb2⟩
  have r0' := cell_kept r0 hb2
  have f0' := frozenK r0 f0 hb2
  have r1' := cell_kept r1 hb2
  have f1' := frozenK r1 f1 hb2
  have r2' := cell_kept r2 hb2
  have f2' := frozenK r2 f2 hb2
  have r3' := cell_kept r3 hb2
  have f3' := frozenK r3 f3 hb2
  have hB2 : Below w.heap.size w w2 := hB1.trans (hb2.mono hB1.size)
  have hz2 : w.heap.size + 1 < w2.heap.size := Nat.lt_of_lt_of_le hz1 hb2.size
  have hz3 : ¬ w.heap.size + 1 = w2.heap.size := by omega
  have hz4 : ¬ w2.heap.size = w.heap.size + 1 := by omega
  clear hb2 r0 r1 r2 r3 f0 f1 f2 f3
  go_wp2
  refine bodyPost_ret (v := .agg #[.int .u8 0, .int .u8 0, .int .u8 0, .int .u8 0]) (by simp [results, Try.results21, go_sem, r0', r1', r2', r3', hz2, hz3, hz4]) rfl ⟨rfl, ?_⟩
  first
    | exact ((((hB2.setCell (Nat.le_add_right w.heap.size 1) _).setCell (Nat.le_add_right w.heap.size 1) _).setCell (Nat.le_add_right w.heap.size 1) _).setCell (Nat.le_add_right w.heap.size 1) _).alloc (by simp [World.setCell]; exact hB2.size) _
    | exact ((((hB2.alloc hB2.size _).setCell (Nat.le_add_right w.heap.size 1) _).setCell (Nat.le_add_right w.heap.size 1) _).setCell (Nat.le_add_right w.heap.size 1) _).setCell (Nat.le_add_right w.heap.size 1) _
set_option maxRecDepth 100000 in
set_option maxHeartbeats 4000000 in
theorem implAt_in (x0 y0 x1 y1 rt ys cs at4 : Int) (A1 A2 A3 A4 : Option Addr) (c1 c2 c3 c4 : Nat) (z1 z2 z3 z4 : List Int) (x y : Int) (w : World) (hr1 : Hid (Reads w A1 z1)) (hl1 : Small z1) (hn1 : Hid (A1 = none → c1 = 0)) (hr2 : Hid (Reads w A2 z2)) (hl2 : Small z2) (hn2 : Hid (A2 = none → c2 = 0)) (hr3 : Hid (Reads w A3 z3)) (hl3 : Small z3) (hn3 : Hid (A3 = none → c3 = 0)) (hr4 : Hid (Reads w A4 z4)) (hl4 : Small z4) (hn4 : Hid (A4 = none → c4 = 0)) (k1 k2 k4 : Nat) (v1 v2 v3 v4 : Int) (E1 : Hid (z1.getD k1 0 = v1)) (E2 : Hid (z2.getD k2 0 = v2)) (E3 : Hid (z3.getD k2 0 = v3)) (E4 : Hid (z4.getD k4 0 = v4)) (hI : Hid (Insd x0 y0 x1 y1 x y)) (b1 : -4398046511104 ≤ y - y0) (b2 : y - y0 ≤ 4398046511104) (b3 : -4398046511104 ≤ x - x0) (b4 : x - x0 ≤ 4398046511104) (p1 : -2305843009213693952 ≤ (y - y0) * ys) (p2 : (y - y0) * ys ≤ 2305843009213693952) (p3 : -2305843009213693952 ≤ (y - y0) * at4) (p4 : (y - y0) * at4 ≤ 2305843009213693952) (K1 : Hid ((y - y0) * ys + (x - x0) = k1)) (K4 : Hid ((y - y0) * at4 + (x - x0) = k4)) (hk1 : k1 < z1.length) (hk2 : k2 < z2.length) (hk3 : k2 < z3.length) (hk4 : k4 < z4.length) (KC : Hid (∀ (g : Nat) (A1 A2 A3 A4 : Option Addr) (c1 c2 c3 c4 : Nat) (W : World), W.heap[g]? = some (.cells #[.slice A1 z1.length c1, .slice A2 z2.length c2, .slice A3 z3.length c3, .int .i64 ys, .int .i64 cs, .int .i64 rt, .int .i64 x0, .int .i64 y0, .int .i64 x1, .int .i64 y1, .slice A4 z4.length c4, .int .i64 at4] 83 (0, 0)) → Calls Try.prog 52 #[.pointer (some ⟨g, 0, none⟩), .int .i64 x, .int .i64 y] W fun e w' => e = .returned (.int .i64 (k2 : Int)) ∧ ∃ n, w' = W.drewN n)) :
    Calls Try.prog 21 #[.agg #[.int .i64 x0, .int .i64 y0, .int .i64 x1, .int .i64 y1, .int .i64 rt, .int .i64 ys, .int .i64 cs, .int .i64 at4, .slice A1 z1.length c1, .slice A2 z2.length c2, .slice A3 z3.length c3, .slice A4 z4.length c4], .int .i64 x, .int .i64 y] w fun e w' => e = .returned (.agg #[.int .u8 v1, .int .u8 v2, .int .u8 v3, .int .u8 v4]) ∧ Below w.heap.size w w' := by
  have aw : Below w.heap.size w ((w.alloc (.cells #[.int .i64 x0, .int .i64 y0, .int .i64 x1, .int .i64 y1, .int .i64 rt, .int .i64 ys, .int .i64 cs, .int .i64 at4, .slice A1 z1.length c1, .slice A2 z2.length c2, .slice A3 z3.length c3, .slice A4 z4.length c4] 30)).alloc (.cells #[.int .u8 0, .int .u8 0, .int .u8 0, .int .u8 0] 41)) := ((Below.refl _ _).alloc (Nat.le_refl _) _).alloc (by simp) _
  have HR1 := Lib.hid (hr1.out.below aw)
  have HR2 := Lib.hid (hr2.out.below aw)
  have HR3 := Lib.hid (hr3.out.below aw)
  have HR4 := Lib.hid (hr4.out.below aw)
  go_enter Try.func21, Try.ntmps21
  go_wp2_with fail
  refine (to_any x0 y0 x1 y1 rt ys cs at4 A1 A2 A3 A4 c1 c2 c3 c4 z1 z2 z3 z4 _ HR1 hl1 hn1 HR2 hl2 hn2 HR3 hl3 hn3 HR4 hl4 hn4).mono ?_
  rintro e w1 ⟨g, B1, B2, B3, B4, e1, e2, e3, e4, rfl, hgb, hg, ho1, ho2, ho3, ho4, hb1⟩
  have HG := Lib.hid hg
  have HO1 := Lib.hid ho1
  have HO2 := Lib.hid ho2
  have HO3 := Lib.hid ho3
  have HO4 := Lib.hid ho4
  have r0 : w1.cell? ⟨w.heap.size + 1, 0, none⟩ = some (.int .u8 0) := ((bcell hb1).1 _ 0 (by simp)).trans (by first | (simp; done) | go_simp)
  have f0 : w1.frozen? ⟨w.heap.size + 1, 0, none⟩ = false := ((bcell hb1).2 _ 0 (by simp)).trans (by first | (simp; done) | go_simp)
  have r1 : w1.cell? ⟨w.heap.size + 1, 1, none⟩ = some (.int .u8 0) := ((bcell hb1).1 _ 1 (by simp)).trans (by first | (simp; done) | go_simp)
  have f1 : w1.frozen? ⟨w.heap.size + 1, 1, none⟩ = false := ((bcell hb1).2 _ 1 (by simp)).trans (by first | (simp; done) | go_simp)
  have r2 : w1.cell? ⟨w.heap.size + 1, 2, none⟩ = some (.int .u8 0) := ((bcell hb1).1 _ 2 (by simp)).trans (by first | (simp; done) | go_simp)
  have f2 : w1.frozen? ⟨w.heap.size + 1, 2, none⟩ = false := ((bcell hb1).2 _ 2 (by simp)).trans (by first | (simp; done) | go_simp)
  have r3 : w1.cell? ⟨w.heap.size + 1, 3, none⟩ = some (.int .u8 0) := ((bcell hb1).1 _ 3 (by simp)).trans (by first | (simp; done) | go_simp)
  have f3 : w1.frozen? ⟨w.heap.size + 1, 3, none⟩ = false := ((bcell hb1).2 _ 3 (by simp)).trans (by first | (simp; done) | go_simp)
  have hB1 : Below w.heap.size w w1 := aw.trans (hb1.mono (by simp; omega))
  have hz1 : w.heap.size + 1 < w1.heap.size := Nat.lt_of_lt_of_le (by simp) hb1.size
  clear hg ho1 ho2 ho3 ho4 hb1 aw
  go_wp2_with fail
  obtain ⟨bb1, ms1, rfl, _, _, _, _, _⟩ := own_block HO1.out (by omega)
  have q1 := (Reads.of_own HO1.out).cell (j := k1) (by omega)
  rw [E1.out] at q1
  obtain ⟨bb2, ms2, rfl, _, _, _, _, _⟩ := own_block HO2.out (by omega)
  have q2 := (Reads.of_own HO2.out).cell (j := k2) (by omega)
  rw [E2.out] at q2
  obtain ⟨bb3, ms3, rfl, _, _, _, _, _⟩ := own_block HO3.out (by omega)
  have q3 := (Reads.of_own HO3.out).cell (j := k2) (by omega)
  rw [E3.out] at q3
  obtain ⟨bb4, ms4, rfl, _, _, _, _, _⟩ := own_block HO4.out (by omega)
  have q4 := (Reads.of_own HO4.out).cell (j := k4) (by omega)
  rw [E4.out] at q4
  refine (atM_in g x0 y0 x1 y1 rt ys cs at4 bb1 0 bb2 0 bb3 0 bb4 0 e1 e2 e3 e4 k1 k2 k4 z1 z2 z3 z4 _ _ _ _ x y _ HG.out hI b1 b2 b3 b4 p1 p2 p3 p4 K1 K4 (show Hid _ from fun W hW => KC.out g _ _ _ _ e1 e2 e3 e4 W hW) q1 (by omega) q2 (by omega) q3 (by omega) q4 (by omega)).mono ?_
  rintro e w2 ⟨rfl, hb2⟩
  have r0' := cell_kept r0 hb2
  have f0' := frozenK r0 f0 hb2
  have r1' := cell_kept r1 hb2
  have f1' := frozenK r1 f1 hb2
  have r2' := cell_kept r2 hb2
  have f2' := frozenK r2 f2 hb2
  have r3' := cell_kept r3 hb2
  have f3' := frozenK r3 f3 hb2
  have hB2 : Below w.heap.size w w2 := hB1.trans (hb2.mono hB1.size)
  have hz2 : w.heap.size + 1 < w2.heap.size := Nat.lt_of_lt_of_le hz1 hb2.size
  have hz3 : ¬ w.heap.size + 1 = w2.heap.size := by omega
  have hz4 : ¬ w2.heap.size = w.heap.size + 1 := by omega
  clear hb2 r0 r1 r2 r3 f0 f1 f2 f3
  go_wp2
  refine bodyPost_ret (v := .agg #[.int .u8 v1, .int .u8 v2, .int .u8 v3, .int .u8 v4]) (by simp [results, Try.results21, go_sem, r0', r1', r2', r3', hz2, hz3, hz4]) rfl ⟨rfl, ?_⟩
  first
    | exact ((((hB2.setCell (Nat.le_add_right w.heap.size 1) _).setCell (Nat.le_add_right w.heap.size 1) _).setCell (Nat.le_add_right w.heap.size 1) _).setCell (Nat.le_add_right w.heap.size 1) _).alloc (by simp [World.setCell]; exact hB2.size) _
    | exact ((((hB2.alloc hB2.size _).setCell (Nat.le_add_right w.heap.size 1) _).setCell (Nat.le_add_right w.heap.size 1) _).setCell (Nat.le_add_right w.heap.size 1) _).setCell (Nat.le_add_right w.heap.size 1) _

end Go.Proofs.Ytcomldkihibfjaa
