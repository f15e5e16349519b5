/- Writing four numbers of two bytes: the method SetNRGBA64, impl.NRGBA64Set outside of the bounds; the walk of the law FnNRGBA64SetOutside. -/
import Derived.Test.YthpgfmgjfadjhaaWAt
import Derived.Test.YthpgfmgjfadjhaaOf
namespace Go.Proofs.Ythpgfmgjfadjhaa
open Go.RowKit
set_option linter.unusedVariables false

set_option maxRecDepth 100000 in
set_option maxHeartbeats 2000000 in
theorem set_out (g : Nat) (A : Option Addr) (c : Nat) (zs : List Int) (s x0 y0 x1 y1 x y v0 v1 v2 v3 : Int) (w : World) (hg : w.heap[g]? = some (.cells #[.slice A zs.length c, .int .i64 s, .int .i64 x0, .int .i64 y0, .int .i64 x1, .int .i64 y1] 100 (0, 0))) (hI : Hid (¬ Insd x0 y0 x1 y1 x y)) :
    Calls Try.prog 51 #[.pointer (some ⟨g, 0, none⟩), .int .i64 x, .int .i64 y, .agg #[.int .u16 v0, .int .u16 v1, .int .u16 v2, .int .u16 v3]] w fun e w' => e = .returned (.tuple #[]) ∧ Below w.heap.size w w' := by
  have HG := Lib.hid hg
  have g0 := cell_of_row w g 0 _ _ _ hg
  have g1 := cell_of_row w g 1 _ _ _ hg
  have g2 := cell_of_row w g 2 _ _ _ hg
  have g3 := cell_of_row w g 3 _ _ _ hg
  have g4 := cell_of_row w g 4 _ _ _ hg
  have g5 := cell_of_row w g 5 _ _ _ hg
  simp at g0 g1 g2 g3 g4 g5
  have hgl : g < w.heap.size := block_lt_of_cell g0
  clear hg HG
  go_enter Try.func51, Try.ntmps51
  go_wp2_with fail
  refine (in_any x0 y0 x1 y1 x y false (by simp [hI.out]) _).mono ?_
  rintro e w1 ⟨rfl, hb1⟩
  have hB1 : Below w.heap.size w w1 := ((Below.refl _ _).alloc (Nat.le_refl _) _).trans (hb1.mono (by simp))
  have hz1 : w.heap.size < w1.heap.size := by have := hb1.size; simp at this; omega
  have q0 : w1.cell? ⟨w.heap.size, 0, none⟩ = some (.int .u16 v0) := ((bcell hb1).1 _ 0 (by simp)).trans (by simp)
  have q1 : w1.cell? ⟨w.heap.size, 1, none⟩ = some (.int .u16 v1) := ((bcell hb1).1 _ 1 (by simp)).trans (by simp)
  have q2 : w1.cell? ⟨w.heap.size, 2, none⟩ = some (.int .u16 v2) := ((bcell hb1).1 _ 2 (by simp)).trans (by simp)
  have q3 : w1.cell? ⟨w.heap.size, 3, none⟩ = some (.int .u16 v3) := ((bcell hb1).1 _ 3 (by simp)).trans (by simp)
  go_wp2
  exact bodyPost_ret (v := .tuple #[]) (by simp [results, Try.results51, go_sem]) rfl ⟨rfl, hB1⟩

set_option maxRecDepth 100000 in
set_option maxHeartbeats 2000000 in
theorem implSet_out (x0 y0 x1 y1 s x y v0 v1 v2 v3 : Int) (A : Option Addr) (c : Nat) (zs : List Int) (w : World) (hr : Hid (Reads w A zs)) (hl : Small zs) (hn : Hid (A = none → c = 0))
    (hI : Hid (¬ Insd x0 y0 x1 y1 x y)) :
    Calls Try.prog 27 #[.agg #[.int .i64 x0, .int .i64 y0, .int .i64 x1, .int .i64 y1, .int .i64 s, .slice A zs.length c], .int .i64 x, .int .i64 y, .agg #[.int .u16 v0, .int .u16 v1, .int .u16 v2, .int .u16 v3]] w (DeepBack zs s x0 y0 x1 y1 w) := by
  go_enter Try.func27, Try.ntmps27
  go_wp2_with fail
  refine (to_any x0 y0 x1 y1 s A c zs _ (hr.out.below ((((Below.refl _ _).alloc (Nat.le_refl _) _).alloc (by simp) _).alloc (by simp; omega) _)) hl hn.out).mono ?_
  rintro e w1 ⟨g, A', c', rfl, hgb, hg, hown, hb1⟩
  have HG := Lib.hid hg
  have HO := Lib.hid hown
  obtain ⟨hc1, hf1⟩ := bcell hb1
  have hz1 : w.heap.size + 2 < w1.heap.size := by have := hb1.size; simp at this; omega
  have hB1 : Below w.heap.size w w1 := ((((Below.refl _ _).alloc (Nat.le_refl _) _).alloc (by simp) _).alloc (by simp; omega) _).trans (hb1.mono (by simp; omega))
  have r0 : w1.cell? ⟨w.heap.size + 2, 0, none⟩ = some (.int .i64 0) := (hc1 _ 0 (by first | (simp; done) | (simp; omega))).trans (by first | (simp; done) | go_simp)
  have r1 : w1.cell? ⟨w.heap.size + 2, 1, none⟩ = some (.int .i64 0) := (hc1 _ 1 (by first | (simp; done) | (simp; omega))).trans (by first | (simp; done) | go_simp)
  have r2 : w1.cell? ⟨w.heap.size + 2, 2, none⟩ = some (.int .i64 0) := (hc1 _ 2 (by first | (simp; done) | (simp; omega))).trans (by first | (simp; done) | go_simp)
  have r3 : w1.cell? ⟨w.heap.size + 2, 3, none⟩ = some (.int .i64 0) := (hc1 _ 3 (by first | (simp; done) | (simp; omega))).trans (by first | (simp; done) | go_simp)
  have r4 : w1.cell? ⟨w.heap.size + 2, 4, none⟩ = some (.int .i64 0) := (hc1 _ 4 (by first | (simp; done) | (simp; omega))).trans (by first | (simp; done) | go_simp)
  have r5 : w1.cell? ⟨w.heap.size + 2, 5, none⟩ = some (.slice none 0 0) := (hc1 _ 5 (by first | (simp; done) | (simp; omega))).trans (by first | (simp; done) | go_simp)
  have u0 : w1.cell? ⟨w.heap.size + 1, 0, none⟩ = some (.int .u16 v0) := (hc1 _ 0 (by first | (simp; done) | (simp; omega))).trans (by first | (simp; done) | go_simp)
  have u1 : w1.cell? ⟨w.heap.size + 1, 1, none⟩ = some (.int .u16 v1) := (hc1 _ 1 (by first | (simp; done) | (simp; omega))).trans (by first | (simp; done) | go_simp)
  have u2 : w1.cell? ⟨w.heap.size + 1, 2, none⟩ = some (.int .u16 v2) := (hc1 _ 2 (by first | (simp; done) | (simp; omega))).trans (by first | (simp; done) | go_simp)
  have u3 : w1.cell? ⟨w.heap.size + 1, 3, none⟩ = some (.int .u16 v3) := (hc1 _ 3 (by first | (simp; done) | (simp; omega))).trans (by first | (simp; done) | go_simp)
  have fz : ∀ i, w1.frozen? ⟨w.heap.size + 2, i, none⟩ = false := fun i => (hf1 _ i (by first | (simp; done) | (simp; omega))).trans (by first | (simp; done) | go_simp)
  have FZ := Lib.hid fz
  clear hg hown hb1 hc1 hf1 fz
  go_wp2_with fail
  refine (set_out g A' c' zs s x0 y0 x1 y1 x y v0 v1 v2 v3 _ HG.out hI).mono ?_
  rintro e w2 ⟨rfl, hb2⟩
  have HG2 := Lib.hid (heap_kept HG.out hb2)
  have HO2 := Lib.hid (ownsRow_below HO.out hb2)
  go_wp2_with fail
  refine (of_any g A' c' zs s x0 y0 x1 y1 _ HG2.out (Reads.of_own HO2.out) hl (own_nil HO2.out)).mono ?_
  rintro e w3 ⟨A3, c3, rfl, hown3, hb3⟩
  have hB23 : Below w1.heap.size w1 w3 := hb2.trans (hb3.mono hb2.size)
  have hB3 : Below w.heap.size w w3 := hB1.trans (hB23.mono (by omega))
  have hz3 : w.heap.size + 2 < w2.heap.size := by have := hb2.size; omega
  replace r0 := cell_kept r0 hB23
  replace r1 := cell_kept r1 hB23
  replace r2 := cell_kept r2 hB23
  replace r3 := cell_kept r3 hB23
  replace r4 := cell_kept r4 hB23
  replace r5 := cell_kept r5 hB23
  have f0 : w3.frozen? ⟨w.heap.size + 2, 0, none⟩ = false := (hB23.frozen (by simpa using hz1)).trans (FZ.out 0)
  have f1 : w3.frozen? ⟨w.heap.size + 2, 1, none⟩ = false := (hB23.frozen (by simpa using hz1)).trans (FZ.out 1)
  have f2 : w3.frozen? ⟨w.heap.size + 2, 2, none⟩ = false := (hB23.frozen (by simpa using hz1)).trans (FZ.out 2)
  have f3 : w3.frozen? ⟨w.heap.size + 2, 3, none⟩ = false := (hB23.frozen (by simpa using hz1)).trans (FZ.out 3)
  have f4 : w3.frozen? ⟨w.heap.size + 2, 4, none⟩ = false := (hB23.frozen (by simpa using hz1)).trans (FZ.out 4)
  have f5 : w3.frozen? ⟨w.heap.size + 2, 5, none⟩ = false := (hB23.frozen (by simpa using hz1)).trans (FZ.out 5)
  have HO3 := Lib.hid hown3
  clear hown3 hb2 hb3
  go_wp2
  refine bodyPost_ret (v := .agg #[.int .i64 x0, .int .i64 y0, .int .i64 x1, .int .i64 y1, .int .i64 s, .slice A3 zs.length c3]) (by simp [results, Try.results27, go_sem, r0, r1, r2, r3, r4, r5]) rfl ⟨A3, c3, rfl, ?_, ?_⟩
  · refine ownsRow_base (base' := w2.heap.size) ?_ (by omega)
    exact ownsRow_setCell_below (ownsRow_setCell_below (ownsRow_setCell_below (ownsRow_setCell_below (ownsRow_setCell_below (ownsRow_setCell_below HO3.out hz3 _) hz3 _) hz3 _) hz3 _) hz3 _) hz3 _
  · exact (((((hB3.setCell (Nat.le_add_right _ 2) _).setCell (Nat.le_add_right _ 2) _).setCell (Nat.le_add_right _ 2) _).setCell (Nat.le_add_right _ 2) _).setCell (Nat.le_add_right _ 2) _).setCell (Nat.le_add_right _ 2) _


set_option maxRecDepth 100000 in
set_option maxHeartbeats 2000000 in
theorem setOutside_in (x0 y0 x1 y1 s x y v0 v1 v2 v3 : Int) (A : Option Addr) (c : Nat) (zs : List Int) (w : World) (hr : Hid (Reads w A zs)) (hy : Hid (Bytes zs)) (hl : Small zs) (hn : Hid (A = none → c = 0)) (h0 : 0 ≤ v0) (h1 : v0 ≤ 65535) (h2 : 0 ≤ v1) (h3 : v1 ≤ 65535) (h4 : 0 ≤ v2) (h5 : v2 ≤ 65535) (h6 : 0 ≤ v3) (h7 : v3 ≤ 65535) (hI : Hid (Insd x0 y0 x1 y1 x y)) :
    Calls Try.prog 7 #[.agg #[.int .i64 x0, .int .i64 y0, .int .i64 x1, .int .i64 y1, .int .i64 s, .slice A zs.length c], .int .i64 x, .int .i64 y, .agg #[.int .u16 v0, .int .u16 v1, .int .u16 v2, .int .u16 v3]] w fun e w' => e = .returned (.bool true) ∧ Below w.heap.size w w' := by
  have S0 : w.heap.size + 1 < ((w.alloc (.cells #[.int .i64 x0, .int .i64 y0, .int .i64 x1, .int .i64 y1, .int .i64 s, .slice A zs.length c] 26)).alloc (.cells #[.int .u16 v0, .int .u16 v1, .int .u16 v2, .int .u16 v3] 37)).heap.size ∧ Below w.heap.size w ((w.alloc (.cells #[.int .i64 x0, .int .i64 y0, .int .i64 x1, .int .i64 y1, .int .i64 s, .slice A zs.length c] 26)).alloc (.cells #[.int .u16 v0, .int .u16 v1, .int .u16 v2, .int .u16 v3] 37)) ∧ ((w.alloc (.cells #[.int .i64 x0, .int .i64 y0, .int .i64 x1, .int .i64 y1, .int .i64 s, .slice A zs.length c] 26)).alloc (.cells #[.int .u16 v0, .int .u16 v1, .int .u16 v2, .int .u16 v3] 37)).cell? ⟨w.heap.size, 0, none⟩ = some (.int .i64 x0) ∧ ((w.alloc (.cells #[.int .i64 x0, .int .i64 y0, .int .i64 x1, .int .i64 y1, .int .i64 s, .slice A zs.length c] 26)).alloc (.cells #[.int .u16 v0, .int .u16 v1, .int .u16 v2, .int .u16 v3] 37)).cell? ⟨w.heap.size, 1, none⟩ = some (.int .i64 y0) ∧ ((w.alloc (.cells #[.int .i64 x0, .int .i64 y0, .int .i64 x1, .int .i64 y1, .int .i64 s, .slice A zs.length c] 26)).alloc (.cells #[.int .u16 v0, .int .u16 v1, .int .u16 v2, .int .u16 v3] 37)).cell? ⟨w.heap.size, 2, none⟩ = some (.int .i64 x1) ∧ ((w.alloc (.cells #[.int .i64 x0, .int .i64 y0, .int .i64 x1, .int .i64 y1, .int .i64 s, .slice A zs.length c] 26)).alloc (.cells #[.int .u16 v0, .int .u16 v1, .int .u16 v2, .int .u16 v3] 37)).cell? ⟨w.heap.size, 3, none⟩ = some (.int .i64 y1) ∧ ((w.alloc (.cells #[.int .i64 x0, .int .i64 y0, .int .i64 x1, .int .i64 y1, .int .i64 s, .slice A zs.length c] 26)).alloc (.cells #[.int .u16 v0, .int .u16 v1, .int .u16 v2, .int .u16 v3] 37)).cell? ⟨w.heap.size, 4, none⟩ = some (.int .i64 s) ∧ ((w.alloc (.cells #[.int .i64 x0, .int .i64 y0, .int .i64 x1, .int .i64 y1, .int .i64 s, .slice A zs.length c] 26)).alloc (.cells #[.int .u16 v0, .int .u16 v1, .int .u16 v2, .int .u16 v3] 37)).cell? ⟨w.heap.size, 5, none⟩ = some (.slice A zs.length c) ∧ ((w.alloc (.cells #[.int .i64 x0, .int .i64 y0, .int .i64 x1, .int .i64 y1, .int .i64 s, .slice A zs.length c] 26)).alloc (.cells #[.int .u16 v0, .int .u16 v1, .int .u16 v2, .int .u16 v3] 37)).cell? ⟨w.heap.size + 1, 0, none⟩ = some (.int .u16 v0) ∧ ((w.alloc (.cells #[.int .i64 x0, .int .i64 y0, .int .i64 x1, .int .i64 y1, .int .i64 s, .slice A zs.length c] 26)).alloc (.cells #[.int .u16 v0, .int .u16 v1, .int .u16 v2, .int .u16 v3] 37)).cell? ⟨w.heap.size + 1, 1, none⟩ = some (.int .u16 v1) ∧ ((w.alloc (.cells #[.int .i64 x0, .int .i64 y0, .int .i64 x1, .int .i64 y1, .int .i64 s, .slice A zs.length c] 26)).alloc (.cells #[.int .u16 v0, .int .u16 v1, .int .u16 v2, .int .u16 v3] 37)).cell? ⟨w.heap.size + 1, 2, none⟩ = some (.int .u16 v2) ∧ ((w.alloc (.cells #[.int .i64 x0, .int .i64 y0, .int .i64 x1, .int .i64 y1, .int .i64 s, .slice A zs.length c] 26)).alloc (.cells #[.int .u16 v0, .int .u16 v1, .int .u16 v2, .int .u16 v3] 37)).cell? ⟨w.heap.size + 1, 3, none⟩ = some (.int .u16 v3) := ⟨by simp, ((Below.refl _ _).alloc (Nat.le_refl _) _).alloc (by simp) _, by first | (simp; done) | go_simp, by first | (simp; done) | go_simp, by first | (simp; done) | go_simp, by first | (simp; done) | go_simp, by first | (simp; done) | go_simp, by first | (simp; done) | go_simp, by first | (simp; done) | go_simp, by first | (simp; done) | go_simp, by first | (simp; done) | go_simp, by first | (simp; done) | go_simp⟩
  go_enter Try.func7, Try.ntmps7
  go_wp2_with fail
  refine (inside_any x0 y0 x1 y1 x y true (by simp [hI.out]) _).mono ?_
  rintro e w1 ⟨rfl, hb1⟩
  have S1 : w.heap.size + 1 < w1.heap.size ∧ Below w.heap.size w w1 ∧ w1.cell? ⟨w.heap.size, 0, none⟩ = some (.int .i64 x0) ∧ w1.cell? ⟨w.heap.size, 1, none⟩ = some (.int .i64 y0) ∧ w1.cell? ⟨w.heap.size, 2, none⟩ = some (.int .i64 x1) ∧ w1.cell? ⟨w.heap.size, 3, none⟩ = some (.int .i64 y1) ∧ w1.cell? ⟨w.heap.size, 4, none⟩ = some (.int .i64 s) ∧ w1.cell? ⟨w.heap.size, 5, none⟩ = some (.slice A zs.length c) ∧ w1.cell? ⟨w.heap.size + 1, 0, none⟩ = some (.int .u16 v0) ∧ w1.cell? ⟨w.heap.size + 1, 1, none⟩ = some (.int .u16 v1) ∧ w1.cell? ⟨w.heap.size + 1, 2, none⟩ = some (.int .u16 v2) ∧ w1.cell? ⟨w.heap.size + 1, 3, none⟩ = some (.int .u16 v3) := ⟨Nat.lt_of_lt_of_le S0.1 hb1.size, S0.2.1.trans (hb1.mono S0.2.1.size), cell_kept S0.2.2.1 hb1, cell_kept S0.2.2.2.1 hb1, cell_kept S0.2.2.2.2.1 hb1, cell_kept S0.2.2.2.2.2.1 hb1, cell_kept S0.2.2.2.2.2.2.1 hb1, cell_kept S0.2.2.2.2.2.2.2.1 hb1, cell_kept S0.2.2.2.2.2.2.2.2.1 hb1, cell_kept S0.2.2.2.2.2.2.2.2.2.1 hb1, cell_kept S0.2.2.2.2.2.2.2.2.2.2.1 hb1, cell_kept S0.2.2.2.2.2.2.2.2.2.2.2 hb1⟩
  obtain ⟨hz1, hB1, c1_0, c1_1, c1_2, c1_3, c1_4, c1_5, c1_6, c1_7, c1_8, c1_9⟩ := id S1
  clear hb1 S0
  go_wp2
  go_ret
  exact ⟨by simp, hB1⟩

set_option maxRecDepth 100000 in
set_option maxHeartbeats 2000000 in
theorem setOutside_out (x0 y0 x1 y1 s x y v0 v1 v2 v3 : Int) (A : Option Addr) (c : Nat) (zs : List Int) (w : World) (hr : Hid (Reads w A zs)) (hy : Hid (Bytes zs)) (hl : Small zs) (hn : Hid (A = none → c = 0)) (h0 : 0 ≤ v0) (h1 : v0 ≤ 65535) (h2 : 0 ≤ v1) (h3 : v1 ≤ 65535) (h4 : 0 ≤ v2) (h5 : v2 ≤ 65535) (h6 : 0 ≤ v3) (h7 : v3 ≤ 65535) (hI : Hid (¬ Insd x0 y0 x1 y1 x y)) :
    Calls Try.prog 7 #[.agg #[.int .i64 x0, .int .i64 y0, .int .i64 x1, .int .i64 y1, .int .i64 s, .slice A zs.length c], .int .i64 x, .int .i64 y, .agg #[.int .u16 v0, .int .u16 v1, .int .u16 v2, .int .u16 v3]] w fun e w' => e = .returned (.bool true) ∧ Below w.heap.size w w' := by
  have S0 : w.heap.size + 1 < ((w.alloc (.cells #[.int .i64 x0, .int .i64 y0, .int .i64 x1, .int .i64 y1, .int .i64 s, .slice A zs.length c] 26)).alloc (.cells #[.int .u16 v0, .int .u16 v1, .int .u16 v2, .int .u16 v3] 37)).heap.size ∧ Below w.heap.size w ((w.alloc (.cells #[.int .i64 x0, .int .i64 y0, .int .i64 x1, .int .i64 y1, .int .i64 s, .slice A zs.length c] 26)).alloc (.cells #[.int .u16 v0, .int .u16 v1, .int .u16 v2, .int .u16 v3] 37)) ∧ ((w.alloc (.cells #[.int .i64 x0, .int .i64 y0, .int .i64 x1, .int .i64 y1, .int .i64 s, .slice A zs.length c] 26)).alloc (.cells #[.int .u16 v0, .int .u16 v1, .int .u16 v2, .int .u16 v3] 37)).cell? ⟨w.heap.size, 0, none⟩ = some (.int .i64 x0) ∧ ((w.alloc (.cells #[.int .i64 x0, .int .i64 y0, .int .i64 x1, .int .i64 y1, .int .i64 s, .slice A zs.length c] 26)).alloc (.cells #[.int .u16 v0, .int .u16 v1, .int .u16 v2, .int .u16 v3] 37)).cell? ⟨w.heap.size, 1, none⟩ = some (.int .i64 y0) ∧ ((w.alloc (.cells #[.int .i64 x0, .int .i64 y0, .int .i64 x1, .int .i64 y1, .int .i64 s, .slice A zs.length c] 26)).alloc (.cells #[.int .u16 v0, .int .u16 v1, .int .u16 v2, .int .u16 v3] 37)).cell? ⟨w.heap.size, 2, none⟩ = some (.int .i64 x1) ∧ ((w.alloc (.cells #[.int .i64 x0, .int .i64 y0, .int .i64 x1, .int .i64 y1, .int .i64 s, .slice A zs.length c] 26)).alloc (.cells #[.int .u16 v0, .int .u16 v1, .int .u16 v2, .int .u16 v3] 37)).cell? ⟨w.heap.size, 3, none⟩ = some (.int .i64 y1) ∧ ((w.alloc (.cells #[.int .i64 x0, .int .i64 y0, .int .i64 x1, .int .i64 y1, .int .i64 s, .slice A zs.length c] 26)).alloc (.cells #[.int .u16 v0, .int .u16 v1, .int .u16 v2, .int .u16 v3] 37)).cell? ⟨w.heap.size, 4, none⟩ = some (.int .i64 s) ∧ ((w.alloc (.cells #[.int .i64 x0, .int .i64 y0, .int .i64 x1, .int .i64 y1, .int .i64 s, .slice A zs.length c] 26)).alloc (.cells #[.int .u16 v0, .int .u16 v1, .int .u16 v2, .int .u16 v3] 37)).cell? ⟨w.heap.size, 5, none⟩ = some (.slice A zs.length c) ∧ ((w.alloc (.cells #[.int .i64 x0, .int .i64 y0, .int .i64 x1, .int .i64 y1, .int .i64 s, .slice A zs.length c] 26)).alloc (.cells #[.int .u16 v0, .int .u16 v1, .int .u16 v2, .int .u16 v3] 37)).cell? ⟨w.heap.size + 1, 0, none⟩ = some (.int .u16 v0) ∧ ((w.alloc (.cells #[.int .i64 x0, .int .i64 y0, .int .i64 x1, .int .i64 y1, .int .i64 s, .slice A zs.length c] 26)).alloc (.cells #[.int .u16 v0, .int .u16 v1, .int .u16 v2, .int .u16 v3] 37)).cell? ⟨w.heap.size + 1, 1, none⟩ = some (.int .u16 v1) ∧ ((w.alloc (.cells #[.int .i64 x0, .int .i64 y0, .int .i64 x1, .int .i64 y1, .int .i64 s, .slice A zs.length c] 26)).alloc (.cells #[.int .u16 v0, .int .u16 v1, .int .u16 v2, .int .u16 v3] 37)).cell? ⟨w.heap.size + 1, 2, none⟩ = some (.int .u16 v2) ∧ ((w.alloc (.cells #[.int .i64 x0, .int .i64 y0, .int .i64 x1, .int .i64 y1, .int .i64 s, .slice A zs.length c] 26)).alloc (.cells #[.int .u16 v0, .int .u16 v1, .int .u16 v2, .int .u16 v3] 37)).cell? ⟨w.heap.size + 1, 3, none⟩ = some (.int .u16 v3) := ⟨by simp, ((Below.refl _ _).alloc (Nat.le_refl _) _).alloc (by simp) _, by first | (simp; done) | go_simp, by first | (simp; done) | go_simp, by first | (simp; done) | go_simp, by first | (simp; done) | go_simp, by first | (simp; done) | go_simp, by first | (simp; done) | go_simp, by first | (simp; done) | go_simp, by first | (simp; done) | go_simp, by first | (simp; done) | go_simp, by first | (simp; done) | go_simp⟩
  go_enter Try.func7, Try.ntmps7
  go_wp2_with fail
  refine (inside_any x0 y0 x1 y1 x y false (by simp [hI.out]) _).mono ?_
  rintro e w1 ⟨rfl, hb1⟩
  have S1 : w.heap.size + 1 < w1.heap.size ∧ Below w.heap.size w w1 ∧ w1.cell? ⟨w.heap.size, 0, none⟩ = some (.int .i64 x0) ∧ w1.cell? ⟨w.heap.size, 1, none⟩ = some (.int .i64 y0) ∧ w1.cell? ⟨w.heap.size, 2, none⟩ = some (.int .i64 x1) ∧ w1.cell? ⟨w.heap.size, 3, none⟩ = some (.int .i64 y1) ∧ w1.cell? ⟨w.heap.size, 4, none⟩ = some (.int .i64 s) ∧ w1.cell? ⟨w.heap.size, 5, none⟩ = some (.slice A zs.length c) ∧ w1.cell? ⟨w.heap.size + 1, 0, none⟩ = some (.int .u16 v0) ∧ w1.cell? ⟨w.heap.size + 1, 1, none⟩ = some (.int .u16 v1) ∧ w1.cell? ⟨w.heap.size + 1, 2, none⟩ = some (.int .u16 v2) ∧ w1.cell? ⟨w.heap.size + 1, 3, none⟩ = some (.int .u16 v3) := ⟨Nat.lt_of_lt_of_le S0.1 hb1.size, S0.2.1.trans (hb1.mono S0.2.1.size), cell_kept S0.2.2.1 hb1, cell_kept S0.2.2.2.1 hb1, cell_kept S0.2.2.2.2.1 hb1, cell_kept S0.2.2.2.2.2.1 hb1, cell_kept S0.2.2.2.2.2.2.1 hb1, cell_kept S0.2.2.2.2.2.2.2.1 hb1, cell_kept S0.2.2.2.2.2.2.2.2.1 hb1, cell_kept S0.2.2.2.2.2.2.2.2.2.1 hb1, cell_kept S0.2.2.2.2.2.2.2.2.2.2.1 hb1, cell_kept S0.2.2.2.2.2.2.2.2.2.2.2 hb1⟩
  obtain ⟨hz1, hB1, c1_0, c1_1, c1_2, c1_3, c1_4, c1_5, c1_6, c1_7, c1_8, c1_9⟩ := id S1
  clear hb1 S0
  go_wp2
  have T0 : w.heap.size + 1 < w1.drew.heap.size ∧ Below w.heap.size w w1.drew ∧ w1.drew.cell? ⟨w.heap.size, 0, none⟩ = some (.int .i64 x0) ∧ w1.drew.cell? ⟨w.heap.size, 1, none⟩ = some (.int .i64 y0) ∧ w1.drew.cell? ⟨w.heap.size, 2, none⟩ = some (.int .i64 x1) ∧ w1.drew.cell? ⟨w.heap.size, 3, none⟩ = some (.int .i64 y1) ∧ w1.drew.cell? ⟨w.heap.size, 4, none⟩ = some (.int .i64 s) ∧ w1.drew.cell? ⟨w.heap.size, 5, none⟩ = some (.slice A zs.length c) ∧ w1.drew.cell? ⟨w.heap.size + 1, 0, none⟩ = some (.int .u16 v0) ∧ w1.drew.cell? ⟨w.heap.size + 1, 1, none⟩ = some (.int .u16 v1) ∧ w1.drew.cell? ⟨w.heap.size + 1, 2, none⟩ = some (.int .u16 v2) ∧ w1.drew.cell? ⟨w.heap.size + 1, 3, none⟩ = some (.int .u16 v3) := ⟨Nat.lt_of_lt_of_le S1.1 (Below.refl w1.heap.size w1).drew.size, S1.2.1.trans ((Below.refl w1.heap.size w1).drew.mono S1.2.1.size), cell_kept S1.2.2.1 (Below.refl w1.heap.size w1).drew, cell_kept S1.2.2.2.1 (Below.refl w1.heap.size w1).drew, cell_kept S1.2.2.2.2.1 (Below.refl w1.heap.size w1).drew, cell_kept S1.2.2.2.2.2.1 (Below.refl w1.heap.size w1).drew, cell_kept S1.2.2.2.2.2.2.1 (Below.refl w1.heap.size w1).drew, cell_kept S1.2.2.2.2.2.2.2.1 (Below.refl w1.heap.size w1).drew, cell_kept S1.2.2.2.2.2.2.2.2.1 (Below.refl w1.heap.size w1).drew, cell_kept S1.2.2.2.2.2.2.2.2.2.1 (Below.refl w1.heap.size w1).drew, cell_kept S1.2.2.2.2.2.2.2.2.2.2.1 (Below.refl w1.heap.size w1).drew, cell_kept S1.2.2.2.2.2.2.2.2.2.2.2 (Below.refl w1.heap.size w1).drew⟩
  go_region_held3 (fun w' => w.heap.size + 1 < w'.heap.size ∧ Below w.heap.size w w' ∧ w'.cell? ⟨w.heap.size, 0, none⟩ = some (.int .i64 x0) ∧ w'.cell? ⟨w.heap.size, 1, none⟩ = some (.int .i64 y0) ∧ w'.cell? ⟨w.heap.size, 2, none⟩ = some (.int .i64 x1) ∧ w'.cell? ⟨w.heap.size, 3, none⟩ = some (.int .i64 y1) ∧ w'.cell? ⟨w.heap.size, 4, none⟩ = some (.int .i64 s) ∧ w'.cell? ⟨w.heap.size, 5, none⟩ = some (.slice A zs.length c) ∧ w'.cell? ⟨w.heap.size + 1, 0, none⟩ = some (.int .u16 v0) ∧ w'.cell? ⟨w.heap.size + 1, 1, none⟩ = some (.int .u16 v1) ∧ w'.cell? ⟨w.heap.size + 1, 2, none⟩ = some (.int .u16 v2) ∧ w'.cell? ⟨w.heap.size + 1, 3, none⟩ = some (.int .u16 v3))
    (first | with_reducible exact T2 | with_reducible exact T1 | with_reducible exact T0)
    (first | (go_at_call 27; refine (implSet_out x0 y0 x1 y1 s x y v0 v1 v2 v3 A c zs _ ?_ hl hn hI).mono ?_; exact hr.out.below T0.2.1; rintro e w8 ⟨A8, c8, rfl, hown8, hb8⟩; have T1 : w.heap.size + 1 < w8.heap.size ∧ Below w.heap.size w w8 ∧ w8.cell? ⟨w.heap.size, 0, none⟩ = some (.int .i64 x0) ∧ w8.cell? ⟨w.heap.size, 1, none⟩ = some (.int .i64 y0) ∧ w8.cell? ⟨w.heap.size, 2, none⟩ = some (.int .i64 x1) ∧ w8.cell? ⟨w.heap.size, 3, none⟩ = some (.int .i64 y1) ∧ w8.cell? ⟨w.heap.size, 4, none⟩ = some (.int .i64 s) ∧ w8.cell? ⟨w.heap.size, 5, none⟩ = some (.slice A zs.length c) ∧ w8.cell? ⟨w.heap.size + 1, 0, none⟩ = some (.int .u16 v0) ∧ w8.cell? ⟨w.heap.size + 1, 1, none⟩ = some (.int .u16 v1) ∧ w8.cell? ⟨w.heap.size + 1, 2, none⟩ = some (.int .u16 v2) ∧ w8.cell? ⟨w.heap.size + 1, 3, none⟩ = some (.int .u16 v3) := ⟨Nat.lt_of_lt_of_le T0.1 hb8.size, T0.2.1.trans (hb8.mono T0.2.1.size), cell_kept T0.2.2.1 hb8, cell_kept T0.2.2.2.1 hb8, cell_kept T0.2.2.2.2.1 hb8, cell_kept T0.2.2.2.2.2.1 hb8, cell_kept T0.2.2.2.2.2.2.1 hb8, cell_kept T0.2.2.2.2.2.2.2.1 hb8, cell_kept T0.2.2.2.2.2.2.2.2.1 hb8, cell_kept T0.2.2.2.2.2.2.2.2.2.1 hb8, cell_kept T0.2.2.2.2.2.2.2.2.2.2.1 hb8, cell_kept T0.2.2.2.2.2.2.2.2.2.2.2 hb8⟩) | (go_at_call 26; refine (same_any x0 y0 x1 y1 s A8 A c8 c zs _ ?_ ?_).mono ?_; exact Reads.of_own hown8; exact hr.out.below T1.2.1; rintro e w9 ⟨rfl, hb9⟩; have T2 : w.heap.size + 1 < w9.heap.size ∧ Below w.heap.size w w9 ∧ w9.cell? ⟨w.heap.size, 0, none⟩ = some (.int .i64 x0) ∧ w9.cell? ⟨w.heap.size, 1, none⟩ = some (.int .i64 y0) ∧ w9.cell? ⟨w.heap.size, 2, none⟩ = some (.int .i64 x1) ∧ w9.cell? ⟨w.heap.size, 3, none⟩ = some (.int .i64 y1) ∧ w9.cell? ⟨w.heap.size, 4, none⟩ = some (.int .i64 s) ∧ w9.cell? ⟨w.heap.size, 5, none⟩ = some (.slice A zs.length c) ∧ w9.cell? ⟨w.heap.size + 1, 0, none⟩ = some (.int .u16 v0) ∧ w9.cell? ⟨w.heap.size + 1, 1, none⟩ = some (.int .u16 v1) ∧ w9.cell? ⟨w.heap.size + 1, 2, none⟩ = some (.int .u16 v2) ∧ w9.cell? ⟨w.heap.size + 1, 3, none⟩ = some (.int .u16 v3) := ⟨Nat.lt_of_lt_of_le T1.1 hb9.size, T1.2.1.trans (hb9.mono T1.2.1.size), cell_kept T1.2.2.1 hb9, cell_kept T1.2.2.2.1 hb9, cell_kept T1.2.2.2.2.1 hb9, cell_kept T1.2.2.2.2.2.1 hb9, cell_kept T1.2.2.2.2.2.2.1 hb9, cell_kept T1.2.2.2.2.2.2.2.1 hb9, cell_kept T1.2.2.2.2.2.2.2.2.1 hb9, cell_kept T1.2.2.2.2.2.2.2.2.2.1 hb9, cell_kept T1.2.2.2.2.2.2.2.2.2.2.1 hb9, cell_kept T1.2.2.2.2.2.2.2.2.2.2.2 hb9⟩))
  go_wp2
  go_ret
  exact ⟨by simp, T2.2.1⟩

theorem walk_setOutside (x0 y0 x1 y1 s x y v0 v1 v2 v3 : Int) (A : Option Addr) (c : Nat) (zs : List Int) (w : World) (hr : Hid (Reads w A zs)) (hy : Hid (Bytes zs)) (hl : Small zs) (hn : Hid (A = none → c = 0)) (h0 : 0 ≤ v0) (h1 : v0 ≤ 65535) (h2 : 0 ≤ v1) (h3 : v1 ≤ 65535) (h4 : 0 ≤ v2) (h5 : v2 ≤ 65535) (h6 : 0 ≤ v3) (h7 : v3 ≤ 65535) :
    Calls Try.prog 7 #[.agg #[.int .i64 x0, .int .i64 y0, .int .i64 x1, .int .i64 y1, .int .i64 s, .slice A zs.length c], .int .i64 x, .int .i64 y, .agg #[.int .u16 v0, .int .u16 v1, .int .u16 v2, .int .u16 v3]] w fun e w' => e = .returned (.bool true) ∧ Below w.heap.size w w' := by
  by_cases hI : Insd x0 y0 x1 y1 x y
  · exact setOutside_in x0 y0 x1 y1 s x y v0 v1 v2 v3 A c zs w hr hy hl hn h0 h1 h2 h3 h4 h5 h6 h7 hI
  · exact setOutside_out x0 y0 x1 y1 s x y v0 v1 v2 v3 A c zs w hr hy hl hn h0 h1 h2 h3 h4 h5 h6 h7 hI

end Go.Proofs.Ythpgfmgjfadjhaa
