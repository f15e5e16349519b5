/- Films: the method NYCbCrAAt. -/
import Derived.Test.YtcomldkihibfjaaFilmOff
import Derived.Deep.RegionHeld3
namespace Go.Proofs.Ytcomldkihibfjaa
open Go.RowKit
set_option linter.unusedVariables false
set_option linter.unusedSimpArgs false

set_option maxRecDepth 100000 in
set_option maxHeartbeats 4000000 in
theorem atM_in (g : Nat) (x0 y0 x1 y1 rt ys cs at4 : Int) (b1 o1 b2 o2 b3 o3 b4 o4 c1 c2 c3 c4 k1 k2 k4 : Nat) (z1 z2 z3 z4 : List Int) (v1 v2 v3 v4 : Int) (x y : Int) (w : World) (hg : w.heap[g]? = some (.cells #[.slice (some ⟨b1, o1, none⟩) z1.length c1, .slice (some ⟨b2, o2, none⟩) z2.length c2, .slice (some ⟨b3, o3, none⟩) z3.length c3, .int .i64 ys, .int .i64 cs, .int .i64 rt, .int .i64 x0, .int .i64 y0, .int .i64 x1, .int .i64 y1, .slice (some ⟨b4, o4, none⟩) z4.length c4, .int .i64 at4] 83 (0, 0)))
    (hI : Hid (Insd x0 y0 x1 y1 x y)) (b1' : -4398046511104 ≤ y - y0) (b2' : y - y0 ≤ 4398046511104) (b3' : -4398046511104 ≤ x - x0) (b4' : x - x0 ≤ 4398046511104)
    (p1 : -2305843009213693952 ≤ (y - y0) * ys) (p2 : (y - y0) * ys ≤ 2305843009213693952) (p3 : -2305843009213693952 ≤ (y - y0) * at4) (p4 : (y - y0) * at4 ≤ 2305843009213693952)
    (K1 : Hid ((y - y0) * ys + (x - x0) = k1)) (K4 : Hid ((y - y0) * at4 + (x - x0) = k4))
    (KC : Hid (∀ W : World, W.heap[g]? = some (.cells #[.slice (some ⟨b1, o1, none⟩) z1.length c1, .slice (some ⟨b2, o2, none⟩) z2.length c2, .slice (some ⟨b3, o3, none⟩) z3.length c3, .int .i64 ys, .int .i64 cs, .int .i64 rt, .int .i64 x0, .int .i64 y0, .int .i64 x1, .int .i64 y1, .slice (some ⟨b4, o4, none⟩) z4.length c4, .int .i64 at4] 83 (0, 0)) → Calls Try.prog 52 #[.pointer (some ⟨g, 0, none⟩), .int .i64 x, .int .i64 y] W fun e w' => e = .returned (.int .i64 (k2 : Int)) ∧ ∃ n, w' = W.drewN n))
    (q1 : w.cell? ⟨b1, o1 + k1, none⟩ = some (.int .u8 v1)) (hk1 : (k1 : Int) < z1.length) (q2 : w.cell? ⟨b2, o2 + k2, none⟩ = some (.int .u8 v2)) (hk2 : (k2 : Int) < z2.length) (q3 : w.cell? ⟨b3, o3 + k2, none⟩ = some (.int .u8 v3)) (hk3 : (k2 : Int) < z3.length) (q4 : w.cell? ⟨b4, o4 + k4, none⟩ = some (.int .u8 v4)) (hk4 : (k4 : Int) < z4.length) :
    Calls Try.prog 39 #[.pointer (some ⟨g, 0, none⟩), .int .i64 x, .int .i64 y] w fun e w' => e = .returned (.agg #[.int .u8 v1, .int .u8 v2, .int .u8 v3, .int .u8 v4]) ∧ Below w.heap.size w w' := by
  have HG := Lib.hid hg
  have g0 := cell_of_row w g 0 _ _ _ hg
  have g1 := cell_of_row w g 1 _ _ _ hg
  have g2 := cell_of_row w g 2 _ _ _ hg
  have g3 := cell_of_row w g 3 _ _ _ hg
  have g4 := cell_of_row w g 4 _ _ _ hg
  have g5 := cell_of_row w g 5 _ _ _ hg
  have g6 := cell_of_row w g 6 _ _ _ hg
  have g7 := cell_of_row w g 7 _ _ _ hg
  have g8 := cell_of_row w g 8 _ _ _ hg
  have g9 := cell_of_row w g 9 _ _ _ hg
  have g10 := cell_of_row w g 10 _ _ _ hg
  have g11 := cell_of_row w g 11 _ _ _ hg
  simp at g0 g1 g2 g3 g4 g5 g6 g7 g8 g9 g10 g11
  clear hg
  have hbl1 : b1 < w.heap.size := block_lt_of_cell q1
  have hne1 : ¬ b1 = w.heap.size := by omega
  have hnf1 : ¬ w.heap.size = b1 := by omega
  have hbl2 : b2 < w.heap.size := block_lt_of_cell q2
  have hne2 : ¬ b2 = w.heap.size := by omega
  have hnf2 : ¬ w.heap.size = b2 := by omega
  have hbl3 : b3 < w.heap.size := block_lt_of_cell q3
  have hne3 : ¬ b3 = w.heap.size := by omega
  have hnf3 : ¬ w.heap.size = b3 := by omega
  have hbl4 : b4 < w.heap.size := block_lt_of_cell q4
  have hne4 : ¬ b4 = w.heap.size := by omega
  have hnf4 : ¬ w.heap.size = b4 := by omega
  have hgl : g < w.heap.size := block_lt_of_cell g0
  have hgn : ¬ g = w.heap.size := by omega
  have hgm : ¬ w.heap.size = g := by omega
  go_enter Try.func39, Try.ntmps39
  go_wp2_with fail
  refine (in_any x0 y0 x1 y1 x y true (by simp [hI.out]) _).mono ?_
  rintro e w1 ⟨rfl, hb1⟩
  have hB1 : Below w.heap.size w w1 := ((Below.refl _ _).alloc (Nat.le_refl _) _).trans (hb1.mono (by simp))
  have hz1 : w.heap.size < w1.heap.size := by have := hb1.size; simp at this; omega
  have r0 : w1.cell? ⟨w.heap.size, 0, none⟩ = some (.int .u8 0) := ((bcell hb1).1 _ 0 (by simp)).trans (by simp)
  have f0 : w1.frozen? ⟨w.heap.size, 0, none⟩ = false := ((bcell hb1).2 _ 0 (by simp)).trans (by simp)
  have r1 : w1.cell? ⟨w.heap.size, 1, none⟩ = some (.int .u8 0) := ((bcell hb1).1 _ 1 (by simp)).trans (by simp)
  have f1 : w1.frozen? ⟨w.heap.size, 1, none⟩ = false := ((bcell hb1).2 _ 1 (by simp)).trans (by simp)
  have r2 : w1.cell? ⟨w.heap.size, 2, none⟩ = some (.int .u8 0) := ((bcell hb1).1 _ 2 (by simp)).trans (by simp)
  have f2 : w1.frozen? ⟨w.heap.size, 2, none⟩ = false := ((bcell hb1).2 _ 2 (by simp)).trans (by simp)
  have r3 : w1.cell? ⟨w.heap.size, 3, none⟩ = some (.int .u8 0) := ((bcell hb1).1 _ 3 (by simp)).trans (by simp)
  have f3 : w1.frozen? ⟨w.heap.size, 3, none⟩ = false := ((bcell hb1).2 _ 3 (by simp)).trans (by simp)
  replace g0 := cell_kept g0 hB1
  replace g1 := cell_kept g1 hB1
  replace g2 := cell_kept g2 hB1
  replace g3 := cell_kept g3 hB1
  replace g4 := cell_kept g4 hB1
  replace g5 := cell_kept g5 hB1
  replace g6 := cell_kept g6 hB1
  replace g7 := cell_kept g7 hB1
  replace g8 := cell_kept g8 hB1
  replace g9 := cell_kept g9 hB1
  replace g10 := cell_kept g10 hB1
  replace g11 := cell_kept g11 hB1
  replace q1 := cell_kept q1 hB1
  replace q2 := cell_kept q2 hB1
  replace q3 := cell_kept q3 hB1
  replace q4 := cell_kept q4 hB1
  have HG1 := Lib.hid (heap_kept HG.out hB1)
  clear hb1 HG
  go_wp2_with fail
  refine (yOffset_any g x0 y0 x1 y1 rt ys cs at4 _ _ _ _ c1 c2 c3 c4 z1 z2 z3 z4 x y _ (by exact HG1.out) b1' b2' b3' b4' p1 p2).mono ?_
  rintro e w2 ⟨rfl, n1, rfl⟩
  rw [K1.out]
  go_wp2_with fail
  refine (KC.out _ (by exact HG1.out)).mono ?_
  rintro e w3 ⟨rfl, n2, rfl⟩
  go_wp2_with fail
  refine (aOffset_any g x0 y0 x1 y1 rt ys cs at4 _ _ _ _ c1 c2 c3 c4 z1 z2 z3 z4 x y _ (by exact HG1.out) b1' b2' b3' b4' p3 p4).mono ?_
  rintro e w4 ⟨rfl, n3, rfl⟩
  rw [K4.out]
  clear b1' b2' b3' b4' p1 p2 p3 p4 K1 K4 KC HG1 hI
  have i1 : (0 : Int) ≤ (k1 : Int) := by omega
  have i2 : (0 : Int) ≤ (k2 : Int) := by omega
  have i4 : (0 : Int) ≤ (k4 : Int) := by omega
  go_wp2
  go_region_held3 (fun w' => w'.cell? ⟨g, 0, none⟩ = some (.slice (some ⟨b1, o1, none⟩) z1.length c1) ∧ w'.cell? ⟨g, 1, none⟩ = some (.slice (some ⟨b2, o2, none⟩) z2.length c2) ∧ w'.cell? ⟨g, 2, none⟩ = some (.slice (some ⟨b3, o3, none⟩) z3.length c3) ∧ w'.cell? ⟨g, 10, none⟩ = some (.slice (some ⟨b4, o4, none⟩) z4.length c4) ∧ w'.cell? ⟨b1, o1 + k1, none⟩ = some (.int .u8 v1) ∧ w'.cell? ⟨b2, o2 + k2, none⟩ = some (.int .u8 v2) ∧ w'.cell? ⟨b3, o3 + k2, none⟩ = some (.int .u8 v3) ∧ w'.cell? ⟨b4, o4 + k4, none⟩ = some (.int .u8 v4))
    (go_keep)
    (fail)
  go_wp2
  exact bodyPost_ret (v := .agg #[.int .u8 v1, .int .u8 v2, .int .u8 v3, .int .u8 v4]) (by simp [results, Try.results39, go_sem, r0, r1, r2, r3]) rfl ⟨rfl, by
    first
      | exact ((((below_drewN hB1 _).setCell (Nat.le_refl _) _).setCell (Nat.le_refl _) _).setCell (Nat.le_refl _) _).setCell (Nat.le_refl _) _
      | exact below_drewN ((((hB1.setCell (Nat.le_refl _) _).setCell (Nat.le_refl _) _).setCell (Nat.le_refl _) _).setCell (Nat.le_refl _) _) _
      | exact (below_drewN ((((hB1.setCell (Nat.le_refl _) _).setCell (Nat.le_refl _) _).setCell (Nat.le_refl _) _).setCell (Nat.le_refl _) _) _).drew
      | exact ((((below_drewN (below_drewN (below_drewN hB1 _) _) _).setCell (Nat.le_refl _) _).setCell (Nat.le_refl _) _).setCell (Nat.le_refl _) _).setCell (Nat.le_refl _) _⟩

end Go.Proofs.Ytcomldkihibfjaa
