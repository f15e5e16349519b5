/- The walk of the law FnNRGBA64Sub. -/
import Derived.Test.YthpgfmgjfadjhaaWSub0
import Derived.Test.YthpgfmgjfadjhaaPlainSub
namespace Go.Proofs.Ythpgfmgjfadjhaa
open Go.RowKit
set_option linter.unusedVariables false
set_option linter.unusedSimpArgs false


theorem numAt_drop (zs : List Int) (k j : Nat) : numAt (zs.drop k) j = numAt zs (k + j) := by
  unfold numAt
  rw [getD_drop, getD_drop, Nat.add_assoc]

set_option maxRecDepth 100000 in
set_option maxHeartbeats 4000000 in
theorem sub_some_out (x0 y0 x1 y1 s : Int) (A : Option Addr) (c : Nat) (zs : List Int) (a0 b0 a1 b1 x y : Int) (w : World) (hr : Hid (Reads w A zs)) (hy : Hid (Bytes zs)) (hl : Small zs) (hn : Hid (A = none → c = 0)) (hF : Hid (Fits x0 y0 x1 y1 s 8 zs.length)) (hN : Hid (Near4 a0 b0 a1 b1)) (c0 d0 c1 d1 : Int) (m1 : Hid (max x0 a0 = c0)) (m2 : Hid (max y0 b0 = d0)) (m3 : Hid (min x1 a1 = c1)) (m4 : Hid (min y1 b1 = d1)) (n5 : c0 < c1) (n6 : d0 < d1) (hJ : Hid (¬ Insd c0 d0 c1 d1 x y)) :
    Calls Try.prog 11 #[.agg #[.int .i64 x0, .int .i64 y0, .int .i64 x1, .int .i64 y1, .int .i64 s, .slice A zs.length c], .agg #[.int .i64 a0, .int .i64 b0, .int .i64 a1, .int .i64 b1], .int .i64 x, .int .i64 y] w fun e w' => e = .returned (.bool true) ∧ Below w.heap.size w w' := by
  have hW : Hid (Within c0 d0 c1 d1 x0 y0 x1 y1) := by unfold Hid; rw [← m1.out, ← m2.out, ← m3.out, ← m4.out]; exact within_of _ _ _ _ _ _ _ _
  have hI0 : Hid (Insd x0 y0 x1 y1 c0 d0) := hW.out.insd ⟨Int.le_refl _, n5, Int.le_refl _, n6⟩
  obtain ⟨q1, q2, q3, q4⟩ : -4398046511104 ≤ d0 - y0 ∧ d0 - y0 ≤ 4398046511104 ∧ -4398046511104 ≤ c0 - x0 ∧ c0 - x0 ≤ 4398046511104 := near_point hF.out hI0.out
  obtain ⟨p1, p2⟩ : -2305843009213693952 ≤ (d0 - y0) * s ∧ (d0 - y0) * s ≤ 2305843009213693952 := (by have := hF.out.prods hI0.out; omega)
  obtain ⟨k, hK, hk⟩ := hF.out.place (z := 8) rfl hI0.out
  have HK := Lib.hid hK
  have Hk : Hid (k < zs.length) := by unfold Hid; omega
  have N5 : Hid (max x0 a0 < min x1 a1) := by unfold Hid; rw [m1.out, m3.out]; exact n5
  have N6 : Hid (max y0 b0 < min y1 b1) := by unfold Hid; rw [m2.out, m4.out]; exact n6
  have HFm : Hid (Fits c0 d0 c1 d1 s 8 (zs.drop k).length) := by unfold Hid; rw [List.length_drop]; exact fits_sub hF.out hW.out n5 n6 hK (by omega)
  have HYm := Lib.hid (drop_bytes hy.out k)
  have hlm := drop_small hl k
  have HLEN : Hid ((zs.drop k).length + k = zs.length) := by unfold Hid; rw [List.length_drop]; omega
  have HNUM := Lib.hid (fun j => numAt_drop zs k j)
  have ISUB := fun (w' : World) (h : Hid (Reads w' A zs)) => implSub_some x0 y0 x1 y1 s a0 b0 a1 b1 c0 d0 c1 d1 A c k zs w' h hl hn m1 m2 m3 m4 n5 n6 HK Hk q1 q2 q3 q4 p1 p2
  have ISUB := Lib.hid ISUB
  generalize zs.drop k = zm at HFm HYm hlm HLEN HNUM ISUB
  obtain ⟨nx1, nx2, nx3, nx4⟩ : x0 < x1 ∧ y0 < y1 ∧ a0 < a1 ∧ b0 < b1 := by have := N5.out; have := N6.out; omega
  have S0 : w.heap.size + 1 < ((w.alloc (.cells #[.int .i64 x0, .int .i64 y0, .int .i64 x1, .int .i64 y1, .int .i64 s, .slice A zs.length c] 26)).alloc (.cells #[.int .i64 a0, .int .i64 b0, .int .i64 a1, .int .i64 b1] 23)).heap.size ∧ Below w.heap.size w ((w.alloc (.cells #[.int .i64 x0, .int .i64 y0, .int .i64 x1, .int .i64 y1, .int .i64 s, .slice A zs.length c] 26)).alloc (.cells #[.int .i64 a0, .int .i64 b0, .int .i64 a1, .int .i64 b1] 23)) ∧ ((w.alloc (.cells #[.int .i64 x0, .int .i64 y0, .int .i64 x1, .int .i64 y1, .int .i64 s, .slice A zs.length c] 26)).alloc (.cells #[.int .i64 a0, .int .i64 b0, .int .i64 a1, .int .i64 b1] 23)).cell? ⟨w.heap.size, 0, none⟩ = some (.int .i64 x0) ∧ ((w.alloc (.cells #[.int .i64 x0, .int .i64 y0, .int .i64 x1, .int .i64 y1, .int .i64 s, .slice A zs.length c] 26)).alloc (.cells #[.int .i64 a0, .int .i64 b0, .int .i64 a1, .int .i64 b1] 23)).cell? ⟨w.heap.size, 1, none⟩ = some (.int .i64 y0) ∧ ((w.alloc (.cells #[.int .i64 x0, .int .i64 y0, .int .i64 x1, .int .i64 y1, .int .i64 s, .slice A zs.length c] 26)).alloc (.cells #[.int .i64 a0, .int .i64 b0, .int .i64 a1, .int .i64 b1] 23)).cell? ⟨w.heap.size, 2, none⟩ = some (.int .i64 x1) ∧ ((w.alloc (.cells #[.int .i64 x0, .int .i64 y0, .int .i64 x1, .int .i64 y1, .int .i64 s, .slice A zs.length c] 26)).alloc (.cells #[.int .i64 a0, .int .i64 b0, .int .i64 a1, .int .i64 b1] 23)).cell? ⟨w.heap.size, 3, none⟩ = some (.int .i64 y1) ∧ ((w.alloc (.cells #[.int .i64 x0, .int .i64 y0, .int .i64 x1, .int .i64 y1, .int .i64 s, .slice A zs.length c] 26)).alloc (.cells #[.int .i64 a0, .int .i64 b0, .int .i64 a1, .int .i64 b1] 23)).cell? ⟨w.heap.size, 4, none⟩ = some (.int .i64 s) ∧ ((w.alloc (.cells #[.int .i64 x0, .int .i64 y0, .int .i64 x1, .int .i64 y1, .int .i64 s, .slice A zs.length c] 26)).alloc (.cells #[.int .i64 a0, .int .i64 b0, .int .i64 a1, .int .i64 b1] 23)).cell? ⟨w.heap.size, 5, none⟩ = some (.slice A zs.length c) ∧ ((w.alloc (.cells #[.int .i64 x0, .int .i64 y0, .int .i64 x1, .int .i64 y1, .int .i64 s, .slice A zs.length c] 26)).alloc (.cells #[.int .i64 a0, .int .i64 b0, .int .i64 a1, .int .i64 b1] 23)).cell? ⟨w.heap.size + 1, 0, none⟩ = some (.int .i64 a0) ∧ ((w.alloc (.cells #[.int .i64 x0, .int .i64 y0, .int .i64 x1, .int .i64 y1, .int .i64 s, .slice A zs.length c] 26)).alloc (.cells #[.int .i64 a0, .int .i64 b0, .int .i64 a1, .int .i64 b1] 23)).cell? ⟨w.heap.size + 1, 1, none⟩ = some (.int .i64 b0) ∧ ((w.alloc (.cells #[.int .i64 x0, .int .i64 y0, .int .i64 x1, .int .i64 y1, .int .i64 s, .slice A zs.length c] 26)).alloc (.cells #[.int .i64 a0, .int .i64 b0, .int .i64 a1, .int .i64 b1] 23)).cell? ⟨w.heap.size + 1, 2, none⟩ = some (.int .i64 a1) ∧ ((w.alloc (.cells #[.int .i64 x0, .int .i64 y0, .int .i64 x1, .int .i64 y1, .int .i64 s, .slice A zs.length c] 26)).alloc (.cells #[.int .i64 a0, .int .i64 b0, .int .i64 a1, .int .i64 b1] 23)).cell? ⟨w.heap.size + 1, 3, none⟩ = some (.int .i64 b1) := ⟨by simp, ((Below.refl _ _).alloc (Nat.le_refl _) _).alloc (by simp) _, by first | (simp; done) | go_simp, by first | (simp; done) | go_simp, by first | (simp; done) | go_simp, by first | (simp; done) | go_simp, by first | (simp; done) | go_simp, by first | (simp; done) | go_simp, by first | (simp; done) | go_simp, by first | (simp; done) | go_simp, by first | (simp; done) | go_simp, by first | (simp; done) | go_simp⟩
  go_enter Try.func11, Try.ntmps11
  go_wp2_with fail
  refine (fitsK_any x0 y0 x1 y1 s A c zs true (by simp [hF.out]) _).mono ?_
  rintro e w1 ⟨rfl, hb1⟩
  have S1 : w.heap.size + 1 < w1.heap.size ∧ Below w.heap.size w w1 ∧ w1.cell? ⟨w.heap.size, 0, none⟩ = some (.int .i64 x0) ∧ w1.cell? ⟨w.heap.size, 1, none⟩ = some (.int .i64 y0) ∧ w1.cell? ⟨w.heap.size, 2, none⟩ = some (.int .i64 x1) ∧ w1.cell? ⟨w.heap.size, 3, none⟩ = some (.int .i64 y1) ∧ w1.cell? ⟨w.heap.size, 4, none⟩ = some (.int .i64 s) ∧ w1.cell? ⟨w.heap.size, 5, none⟩ = some (.slice A zs.length c) ∧ w1.cell? ⟨w.heap.size + 1, 0, none⟩ = some (.int .i64 a0) ∧ w1.cell? ⟨w.heap.size + 1, 1, none⟩ = some (.int .i64 b0) ∧ w1.cell? ⟨w.heap.size + 1, 2, none⟩ = some (.int .i64 a1) ∧ w1.cell? ⟨w.heap.size + 1, 3, none⟩ = some (.int .i64 b1) := ⟨Nat.lt_of_lt_of_le S0.1 hb1.size, S0.2.1.trans (hb1.mono S0.2.1.size), cell_kept S0.2.2.1 hb1, cell_kept S0.2.2.2.1 hb1, cell_kept S0.2.2.2.2.1 hb1, cell_kept S0.2.2.2.2.2.1 hb1, cell_kept S0.2.2.2.2.2.2.1 hb1, cell_kept S0.2.2.2.2.2.2.2.1 hb1, cell_kept S0.2.2.2.2.2.2.2.2.1 hb1, cell_kept S0.2.2.2.2.2.2.2.2.2.1 hb1, cell_kept S0.2.2.2.2.2.2.2.2.2.2.1 hb1, cell_kept S0.2.2.2.2.2.2.2.2.2.2.2 hb1⟩
  obtain ⟨hz1, hB1, c1_0, c1_1, c1_2, c1_3, c1_4, c1_5, c1_6, c1_7, c1_8, c1_9⟩ := id S1
  clear hb1 S0
  go_wp2_with fail
  refine (box_any a0 b0 a1 b1 _).mono ?_
  rintro e w2 ⟨rfl, hb2⟩
  have S2 : w.heap.size + 1 < w2.heap.size ∧ Below w.heap.size w w2 ∧ w2.cell? ⟨w.heap.size, 0, none⟩ = some (.int .i64 x0) ∧ w2.cell? ⟨w.heap.size, 1, none⟩ = some (.int .i64 y0) ∧ w2.cell? ⟨w.heap.size, 2, none⟩ = some (.int .i64 x1) ∧ w2.cell? ⟨w.heap.size, 3, none⟩ = some (.int .i64 y1) ∧ w2.cell? ⟨w.heap.size, 4, none⟩ = some (.int .i64 s) ∧ w2.cell? ⟨w.heap.size, 5, none⟩ = some (.slice A zs.length c) ∧ w2.cell? ⟨w.heap.size + 1, 0, none⟩ = some (.int .i64 a0) ∧ w2.cell? ⟨w.heap.size + 1, 1, none⟩ = some (.int .i64 b0) ∧ w2.cell? ⟨w.heap.size + 1, 2, none⟩ = some (.int .i64 a1) ∧ w2.cell? ⟨w.heap.size + 1, 3, none⟩ = some (.int .i64 b1) := ⟨Nat.lt_of_lt_of_le S1.1 hb2.size, S1.2.1.trans (hb2.mono S1.2.1.size), cell_kept S1.2.2.1 hb2, cell_kept S1.2.2.2.1 hb2, cell_kept S1.2.2.2.2.1 hb2, cell_kept S1.2.2.2.2.2.1 hb2, cell_kept S1.2.2.2.2.2.2.1 hb2, cell_kept S1.2.2.2.2.2.2.2.1 hb2, cell_kept S1.2.2.2.2.2.2.2.2.1 hb2, cell_kept S1.2.2.2.2.2.2.2.2.2.1 hb2, cell_kept S1.2.2.2.2.2.2.2.2.2.2.1 hb2, cell_kept S1.2.2.2.2.2.2.2.2.2.2.2 hb2⟩
  obtain ⟨hz2, hB2, c2_0, c2_1, c2_2, c2_3, c2_4, c2_5, c2_6, c2_7, c2_8, c2_9⟩ := id S2
  clear hb2 S1 hz1 hB1 c1_0 c1_1 c1_2 c1_3 c1_4 c1_5 c1_6 c1_7 c1_8 c1_9
  go_wp2_with fail
  refine (near4_any a0 b0 a1 b1 true (by simp [hN.out]) _).mono ?_
  rintro e w3 ⟨rfl, hb3⟩
  have S3 : w.heap.size + 1 < w3.heap.size ∧ Below w.heap.size w w3 ∧ w3.cell? ⟨w.heap.size, 0, none⟩ = some (.int .i64 x0) ∧ w3.cell? ⟨w.heap.size, 1, none⟩ = some (.int .i64 y0) ∧ w3.cell? ⟨w.heap.size, 2, none⟩ = some (.int .i64 x1) ∧ w3.cell? ⟨w.heap.size, 3, none⟩ = some (.int .i64 y1) ∧ w3.cell? ⟨w.heap.size, 4, none⟩ = some (.int .i64 s) ∧ w3.cell? ⟨w.heap.size, 5, none⟩ = some (.slice A zs.length c) ∧ w3.cell? ⟨w.heap.size + 1, 0, none⟩ = some (.int .i64 a0) ∧ w3.cell? ⟨w.heap.size + 1, 1, none⟩ = some (.int .i64 b0) ∧ w3.cell? ⟨w.heap.size + 1, 2, none⟩ = some (.int .i64 a1) ∧ w3.cell? ⟨w.heap.size + 1, 3, none⟩ = some (.int .i64 b1) := ⟨Nat.lt_of_lt_of_le S2.1 hb3.size, S2.2.1.trans (hb3.mono S2.2.1.size), cell_kept S2.2.2.1 hb3, cell_kept S2.2.2.2.1 hb3, cell_kept S2.2.2.2.2.1 hb3, cell_kept S2.2.2.2.2.2.1 hb3, cell_kept S2.2.2.2.2.2.2.1 hb3, cell_kept S2.2.2.2.2.2.2.2.1 hb3, cell_kept S2.2.2.2.2.2.2.2.2.1 hb3, cell_kept S2.2.2.2.2.2.2.2.2.2.1 hb3, cell_kept S2.2.2.2.2.2.2.2.2.2.2.1 hb3, cell_kept S2.2.2.2.2.2.2.2.2.2.2.2 hb3⟩
  obtain ⟨hz3, hB3, c3_0, c3_1, c3_2, c3_3, c3_4, c3_5, c3_6, c3_7, c3_8, c3_9⟩ := id S3
  clear hb3 S2 hz2 hB2 c2_0 c2_1 c2_2 c2_3 c2_4 c2_5 c2_6 c2_7 c2_8 c2_9
  go_wp2_with fail
  refine (ISUB.out _ (hr.out.below hB3)).mono ?_
  rintro e w4 ⟨A4, c4, rfl, hown4, hb4⟩
  have S4 : w.heap.size + 1 < w4.heap.size ∧ Below w.heap.size w w4 ∧ w4.cell? ⟨w.heap.size, 0, none⟩ = some (.int .i64 x0) ∧ w4.cell? ⟨w.heap.size, 1, none⟩ = some (.int .i64 y0) ∧ w4.cell? ⟨w.heap.size, 2, none⟩ = some (.int .i64 x1) ∧ w4.cell? ⟨w.heap.size, 3, none⟩ = some (.int .i64 y1) ∧ w4.cell? ⟨w.heap.size, 4, none⟩ = some (.int .i64 s) ∧ w4.cell? ⟨w.heap.size, 5, none⟩ = some (.slice A zs.length c) ∧ w4.cell? ⟨w.heap.size + 1, 0, none⟩ = some (.int .i64 a0) ∧ w4.cell? ⟨w.heap.size + 1, 1, none⟩ = some (.int .i64 b0) ∧ w4.cell? ⟨w.heap.size + 1, 2, none⟩ = some (.int .i64 a1) ∧ w4.cell? ⟨w.heap.size + 1, 3, none⟩ = some (.int .i64 b1) := ⟨Nat.lt_of_lt_of_le S3.1 hb4.size, S3.2.1.trans (hb4.mono S3.2.1.size), cell_kept S3.2.2.1 hb4, cell_kept S3.2.2.2.1 hb4, cell_kept S3.2.2.2.2.1 hb4, cell_kept S3.2.2.2.2.2.1 hb4, cell_kept S3.2.2.2.2.2.2.1 hb4, cell_kept S3.2.2.2.2.2.2.2.1 hb4, cell_kept S3.2.2.2.2.2.2.2.2.1 hb4, cell_kept S3.2.2.2.2.2.2.2.2.2.1 hb4, cell_kept S3.2.2.2.2.2.2.2.2.2.2.1 hb4, cell_kept S3.2.2.2.2.2.2.2.2.2.2.2 hb4⟩
  have HR4 := Lib.hid ((Reads.of_own hown4).below ((Below.refl _ _).alloc (Nat.le_refl _) (.cells #[.int .i64 c0, .int .i64 d0, .int .i64 c1, .int .i64 d1, .int .i64 s, .slice A4 zm.length c4] 26)))
  have HN4 := Lib.hid (own_nil hown4)
  have aw : Below w4.heap.size w4 (w4.alloc (.cells #[.int .i64 c0, .int .i64 d0, .int .i64 c1, .int .i64 d1, .int .i64 s, .slice A4 zm.length c4] 26)) := (Below.refl _ _).alloc (Nat.le_refl _) _
  have mm0 : (w4.alloc (.cells #[.int .i64 c0, .int .i64 d0, .int .i64 c1, .int .i64 d1, .int .i64 s, .slice A4 zm.length c4] 26)).cell? ⟨w4.heap.size, 0, none⟩ = some (.int .i64 c0) := by simp
  have mm1 : (w4.alloc (.cells #[.int .i64 c0, .int .i64 d0, .int .i64 c1, .int .i64 d1, .int .i64 s, .slice A4 zm.length c4] 26)).cell? ⟨w4.heap.size, 1, none⟩ = some (.int .i64 d0) := by simp
  have mm2 : (w4.alloc (.cells #[.int .i64 c0, .int .i64 d0, .int .i64 c1, .int .i64 d1, .int .i64 s, .slice A4 zm.length c4] 26)).cell? ⟨w4.heap.size, 2, none⟩ = some (.int .i64 c1) := by simp
  have mm3 : (w4.alloc (.cells #[.int .i64 c0, .int .i64 d0, .int .i64 c1, .int .i64 d1, .int .i64 s, .slice A4 zm.length c4] 26)).cell? ⟨w4.heap.size, 3, none⟩ = some (.int .i64 d1) := by simp
  have mm4 : (w4.alloc (.cells #[.int .i64 c0, .int .i64 d0, .int .i64 c1, .int .i64 d1, .int .i64 s, .slice A4 zm.length c4] 26)).cell? ⟨w4.heap.size, 4, none⟩ = some (.int .i64 s) := by simp
  have mm5 : (w4.alloc (.cells #[.int .i64 c0, .int .i64 d0, .int .i64 c1, .int .i64 d1, .int .i64 s, .slice A4 zm.length c4] 26)).cell? ⟨w4.heap.size, 5, none⟩ = some (.slice A4 zm.length c4) := by simp
  have e0 := cell_kept S4.2.2.1 aw
  have e1 := cell_kept S4.2.2.2.1 aw
  have e2 := cell_kept S4.2.2.2.2.1 aw
  have e3 := cell_kept S4.2.2.2.2.2.1 aw
  have e4 := cell_kept S4.2.2.2.2.2.2.1 aw
  have e5 := cell_kept S4.2.2.2.2.2.2.2.1 aw
  have e6 := cell_kept S4.2.2.2.2.2.2.2.2.1 aw
  have e7 := cell_kept S4.2.2.2.2.2.2.2.2.2.1 aw
  have e8 := cell_kept S4.2.2.2.2.2.2.2.2.2.2.1 aw
  have e9 := cell_kept S4.2.2.2.2.2.2.2.2.2.2.2 aw
  have hBw : Below w.heap.size w (w4.alloc (.cells #[.int .i64 c0, .int .i64 d0, .int .i64 c1, .int .i64 d1, .int .i64 s, .slice A4 zm.length c4] 26)) := S4.2.1.trans (aw.mono S4.2.1.size)
  have hMb : w4.heap.size < (w4.alloc (.cells #[.int .i64 c0, .int .i64 d0, .int .i64 c1, .int .i64 d1, .int .i64 s, .slice A4 zm.length c4] 26)).heap.size := by simp
  clear hown4 hb4 S3 S4 aw hz3 hB3 c3_0 c3_1 c3_2 c3_3 c3_4 c3_5 c3_6 c3_7 c3_8 c3_9
  have tok1 : True := trivial
  go_wp2_with fail
  generalize w4.alloc (.cells #[.int .i64 c0, .int .i64 d0, .int .i64 c1, .int .i64 d1, .int .i64 s, .slice A4 zm.length c4] 26) = Wm at *
  go_upto_region 4 with fail
  have P0 : Below Wm.heap.size Wm Wm.drew := (Below.refl _ _).drew
  have P0a : Below Wm.heap.size Wm (Wm.alloc (.cells #[.int .i64 0, .int .i64 0, .int .i64 0, .int .i64 0] 32)).drew := ((Below.refl _ _).alloc (Nat.le_refl _) _).drew
  have toS : ∀ W' : World, Below Wm.heap.size Wm W' → (W'.cell? ⟨w.heap.size, 0, none⟩ = some (.int .i64 x0) ∧ W'.cell? ⟨w.heap.size, 1, none⟩ = some (.int .i64 y0) ∧ W'.cell? ⟨w.heap.size, 2, none⟩ = some (.int .i64 x1) ∧ W'.cell? ⟨w.heap.size, 3, none⟩ = some (.int .i64 y1) ∧ W'.cell? ⟨w.heap.size + 1, 0, none⟩ = some (.int .i64 a0) ∧ W'.cell? ⟨w.heap.size + 1, 1, none⟩ = some (.int .i64 b0) ∧ W'.cell? ⟨w.heap.size + 1, 2, none⟩ = some (.int .i64 a1) ∧ W'.cell? ⟨w.heap.size + 1, 3, none⟩ = some (.int .i64 b1)) := fun W' h => ⟨cell_kept e0 h, cell_kept e1 h, cell_kept e2 h, cell_kept e3 h, cell_kept e6 h, cell_kept e7 h, cell_kept e8 h, cell_kept e9 h⟩
  have TOS := Lib.hid toS
  clear toS
  go_cut [11, 12] (fun pp qq wx => ∃ bc : Nat, pp = .pointer (some ⟨bc, 0, none⟩) ∧ qq = .bool true ∧ Wm.heap.size ≤ bc ∧ bc < wx.heap.size ∧ Below Wm.heap.size Wm wx ∧ wx.cell? ⟨bc, 0, none⟩ = some (.int .i64 c0) ∧ wx.cell? ⟨bc, 1, none⟩ = some (.int .i64 d0) ∧ wx.cell? ⟨bc, 2, none⟩ = some (.int .i64 c1) ∧ wx.cell? ⟨bc, 3, none⟩ = some (.int .i64 d1))
  case first =>
    go_region_held3 (fun w' => w'.cell? ⟨w.heap.size, 0, none⟩ = some (.int .i64 x0) ∧ w'.cell? ⟨w.heap.size, 1, none⟩ = some (.int .i64 y0) ∧ w'.cell? ⟨w.heap.size, 2, none⟩ = some (.int .i64 x1) ∧ w'.cell? ⟨w.heap.size, 3, none⟩ = some (.int .i64 y1) ∧ w'.cell? ⟨w.heap.size + 1, 0, none⟩ = some (.int .i64 a0) ∧ w'.cell? ⟨w.heap.size + 1, 1, none⟩ = some (.int .i64 b0) ∧ w'.cell? ⟨w.heap.size + 1, 2, none⟩ = some (.int .i64 a1) ∧ w'.cell? ⟨w.heap.size + 1, 3, none⟩ = some (.int .i64 b1))
      ((refine TOS.out _ ?_; first | with_reducible exact P0 | with_reducible exact P0a | with_reducible exact P1 | with_reducible exact P1.alloc P1.size _ | with_reducible exact P2 | with_reducible exact P2.alloc P2.size _ | with_reducible exact P3 | with_reducible exact P3.alloc P3.size _ | with_reducible exact ((((P3.setCell (Nat.le_refl _) _).setCell (Nat.le_refl _) _).setCell (Nat.le_refl _) _).setCell (Nat.le_refl _) _) | with_reducible exact ((((P3.setCell P1.size _).setCell P1.size _).setCell P1.size _).setCell P1.size _) | with_reducible exact ((((P3.setCell P2.size _).setCell P2.size _).setCell P2.size _).setCell P2.size _)))
      (first | (go_at_call 21; have _t := tok1; refine (box_any x0 y0 x1 y1 _).mono ?_; rintro e u1 ⟨rfl, hv1⟩; clear tok1; (first | (have P1 : Below Wm.heap.size Wm u1 := P0.trans (hv1.mono P0.size); (try (replace zf0 := frozen_kept zc0 zf0 hv1; replace zc0 := cell_kept zc0 hv1; replace zf1 := frozen_kept zc1 zf1 hv1; replace zc1 := cell_kept zc1 hv1; replace zf2 := frozen_kept zc2 zf2 hv1; replace zc2 := cell_kept zc2 hv1; replace zf3 := frozen_kept zc3 zf3 hv1; replace zc3 := cell_kept zc3 hv1))) | (have P1 : Below Wm.heap.size Wm u1 := P0a.trans (hv1.mono P0a.size); have zc0 : u1.cell? ⟨Wm.heap.size, 0, none⟩ = some (.int .i64 0) := ((bcell hv1).1 _ 0 (by simp)).trans (by simp); have zf0 : u1.frozen? ⟨Wm.heap.size, 0, none⟩ = false := ((bcell hv1).2 _ 0 (by simp)).trans (by simp); have zc1 : u1.cell? ⟨Wm.heap.size, 1, none⟩ = some (.int .i64 0) := ((bcell hv1).1 _ 1 (by simp)).trans (by simp); have zf1 : u1.frozen? ⟨Wm.heap.size, 1, none⟩ = false := ((bcell hv1).2 _ 1 (by simp)).trans (by simp); have zc2 : u1.cell? ⟨Wm.heap.size, 2, none⟩ = some (.int .i64 0) := ((bcell hv1).1 _ 2 (by simp)).trans (by simp); have zf2 : u1.frozen? ⟨Wm.heap.size, 2, none⟩ = false := ((bcell hv1).2 _ 2 (by simp)).trans (by simp); have zc3 : u1.cell? ⟨Wm.heap.size, 3, none⟩ = some (.int .i64 0) := ((bcell hv1).1 _ 3 (by simp)).trans (by simp); have zf3 : u1.frozen? ⟨Wm.heap.size, 3, none⟩ = false := ((bcell hv1).2 _ 3 (by simp)).trans (by simp)))) | (go_at_call 21; refine (box_any a0 b0 a1 b1 _).mono ?_; rintro e u2 ⟨rfl, hv2⟩; (first | (have P2 : Below Wm.heap.size Wm u2 := P1.trans (hv2.mono P1.size); (try (replace zf0 := frozen_kept zc0 zf0 hv2; replace zc0 := cell_kept zc0 hv2; replace zf1 := frozen_kept zc1 zf1 hv2; replace zc1 := cell_kept zc1 hv2; replace zf2 := frozen_kept zc2 zf2 hv2; replace zc2 := cell_kept zc2 hv2; replace zf3 := frozen_kept zc3 zf3 hv2; replace zc3 := cell_kept zc3 hv2))) | (have P2 : Below Wm.heap.size Wm u2 := (P1.alloc P1.size (.cells #[.int .i64 0, .int .i64 0, .int .i64 0, .int .i64 0] 32)).trans (hv2.mono (P1.alloc P1.size (.cells #[.int .i64 0, .int .i64 0, .int .i64 0, .int .i64 0] 32)).size); have zc0 : u2.cell? ⟨u1.heap.size, 0, none⟩ = some (.int .i64 0) := ((bcell hv2).1 _ 0 (by simp)).trans (by simp); have zf0 : u2.frozen? ⟨u1.heap.size, 0, none⟩ = false := ((bcell hv2).2 _ 0 (by simp)).trans (by simp); have zc1 : u2.cell? ⟨u1.heap.size, 1, none⟩ = some (.int .i64 0) := ((bcell hv2).1 _ 1 (by simp)).trans (by simp); have zf1 : u2.frozen? ⟨u1.heap.size, 1, none⟩ = false := ((bcell hv2).2 _ 1 (by simp)).trans (by simp); have zc2 : u2.cell? ⟨u1.heap.size, 2, none⟩ = some (.int .i64 0) := ((bcell hv2).1 _ 2 (by simp)).trans (by simp); have zf2 : u2.frozen? ⟨u1.heap.size, 2, none⟩ = false := ((bcell hv2).2 _ 2 (by simp)).trans (by simp); have zc3 : u2.cell? ⟨u1.heap.size, 3, none⟩ = some (.int .i64 0) := ((bcell hv2).1 _ 3 (by simp)).trans (by simp); have zf3 : u2.frozen? ⟨u1.heap.size, 3, none⟩ = false := ((bcell hv2).2 _ 3 (by simp)).trans (by simp)))) | (go_at_call 35; refine (common_some x0 y0 x1 y1 a0 b0 a1 b1 _ nx1 nx2 nx3 nx4 N5.out N6.out).mono ?_; rw [m1.out, m2.out, m3.out, m4.out]; rintro e u3 ⟨rfl, hv3⟩; (first | (have P3 : Below Wm.heap.size Wm u3 := P2.trans (hv3.mono P2.size); (try (replace zf0 := frozen_kept zc0 zf0 hv3; replace zc0 := cell_kept zc0 hv3; replace zf1 := frozen_kept zc1 zf1 hv3; replace zc1 := cell_kept zc1 hv3; replace zf2 := frozen_kept zc2 zf2 hv3; replace zc2 := cell_kept zc2 hv3; replace zf3 := frozen_kept zc3 zf3 hv3; replace zc3 := cell_kept zc3 hv3))) | (have P3 : Below Wm.heap.size Wm u3 := (P2.alloc P2.size (.cells #[.int .i64 0, .int .i64 0, .int .i64 0, .int .i64 0] 32)).trans (hv3.mono (P2.alloc P2.size (.cells #[.int .i64 0, .int .i64 0, .int .i64 0, .int .i64 0] 32)).size); have zc0 : u3.cell? ⟨u2.heap.size, 0, none⟩ = some (.int .i64 0) := ((bcell hv3).1 _ 0 (by simp)).trans (by simp); have zf0 : u3.frozen? ⟨u2.heap.size, 0, none⟩ = false := ((bcell hv3).2 _ 0 (by simp)).trans (by simp); have zc1 : u3.cell? ⟨u2.heap.size, 1, none⟩ = some (.int .i64 0) := ((bcell hv3).1 _ 1 (by simp)).trans (by simp); have zf1 : u3.frozen? ⟨u2.heap.size, 1, none⟩ = false := ((bcell hv3).2 _ 1 (by simp)).trans (by simp); have zc2 : u3.cell? ⟨u2.heap.size, 2, none⟩ = some (.int .i64 0) := ((bcell hv3).1 _ 2 (by simp)).trans (by simp); have zf2 : u3.frozen? ⟨u2.heap.size, 2, none⟩ = false := ((bcell hv3).2 _ 2 (by simp)).trans (by simp); have zc3 : u3.cell? ⟨u2.heap.size, 3, none⟩ = some (.int .i64 0) := ((bcell hv3).1 _ 3 (by simp)).trans (by simp); have zf3 : u3.frozen? ⟨u2.heap.size, 3, none⟩ = false := ((bcell hv3).2 _ 3 (by simp)).trans (by simp)))))
    all_goals
      go_wp2_with fail
      go_meet
      have z3 := P3.size
      have z2 := P2.size
      have z1 := P1.size
      have y1 := hv2.size
      have y2 := hv3.size
      first
        | exact ⟨u3.heap.size, rfl, rfl, P3.size, by simp, P3.alloc P3.size _, by simp, by simp, by simp, by simp⟩
        | exact ⟨Wm.heap.size, rfl, rfl, Nat.le_refl _, lt_set4 (World.block_lt_of_cell? _ _ zc0), ((((P3.setCell (Nat.le_refl _) _).setCell (Nat.le_refl _) _).setCell (Nat.le_refl _) _).setCell (Nat.le_refl _) _), by go_simp, by go_simp, by go_simp, by go_simp⟩
        | exact ⟨u1.heap.size, rfl, rfl, P1.size, lt_set4 (World.block_lt_of_cell? _ _ zc0), ((((P3.setCell P1.size _).setCell P1.size _).setCell P1.size _).setCell P1.size _), by go_simp, by go_simp, by go_simp, by go_simp⟩
        | exact ⟨u2.heap.size, rfl, rfl, P2.size, lt_set4 (World.block_lt_of_cell? _ _ zc0), ((((P3.setCell P2.size _).setCell P2.size _).setCell P2.size _).setCell P2.size _), by go_simp, by go_simp, by go_simp, by go_simp⟩
  case rest =>
    clear TOS P0 P0a
    obtain ⟨bc, rfl, rfl, hbc, hbl, hBm, cc0, cc1, cc2, cc3⟩ := hcut
    have hBx : Below w.heap.size w wc := hBw.trans (hBm.mono hBw.size)
    have mm0' := cell_kept mm0 hBm
    have mm1' := cell_kept mm1 hBm
    have mm2' := cell_kept mm2 hBm
    have mm3' := cell_kept mm3 hBm
    have mm4' := cell_kept mm4 hBm
    have mm5' := cell_kept mm5 hBm
    have e0' := cell_kept e0 hBm
    have e1' := cell_kept e1 hBm
    have e2' := cell_kept e2 hBm
    have e3' := cell_kept e3 hBm
    have e4' := cell_kept e4 hBm
    have e5' := cell_kept e5 hBm
    have HR4c := Lib.hid (HR4.out.below hBm)
    have HRc := Lib.hid (hr.out.below hBx)
    clear mm0 mm1 mm2 mm3 mm4 mm5 e0 e1 e2 e3 e4 e5 e6 e7 e8 e9 hBw hBm
    go_wp2_with fail
    have P0 : Below wc.heap.size wc wc.drew := (Below.refl _ _).drew
    have toS : ∀ W' : World, Below wc.heap.size wc W' → (W'.cell? ⟨w4.heap.size, 0, none⟩ = some (.int .i64 c0) ∧ W'.cell? ⟨w4.heap.size, 1, none⟩ = some (.int .i64 d0) ∧ W'.cell? ⟨w4.heap.size, 2, none⟩ = some (.int .i64 c1) ∧ W'.cell? ⟨w4.heap.size, 3, none⟩ = some (.int .i64 d1) ∧ W'.cell? ⟨w4.heap.size, 4, none⟩ = some (.int .i64 s) ∧ W'.cell? ⟨w4.heap.size, 5, none⟩ = some (.slice A4 zm.length c4) ∧ W'.cell? ⟨bc, 0, none⟩ = some (.int .i64 c0) ∧ W'.cell? ⟨bc, 1, none⟩ = some (.int .i64 d0) ∧ W'.cell? ⟨bc, 2, none⟩ = some (.int .i64 c1) ∧ W'.cell? ⟨bc, 3, none⟩ = some (.int .i64 d1) ∧ W'.cell? ⟨w.heap.size, 0, none⟩ = some (.int .i64 x0) ∧ W'.cell? ⟨w.heap.size, 1, none⟩ = some (.int .i64 y0) ∧ W'.cell? ⟨w.heap.size, 2, none⟩ = some (.int .i64 x1) ∧ W'.cell? ⟨w.heap.size, 3, none⟩ = some (.int .i64 y1) ∧ W'.cell? ⟨w.heap.size, 4, none⟩ = some (.int .i64 s) ∧ W'.cell? ⟨w.heap.size, 5, none⟩ = some (.slice A zs.length c)) := fun W' h => ⟨cell_kept mm0' h, cell_kept mm1' h, cell_kept mm2' h, cell_kept mm3' h, cell_kept mm4' h, cell_kept mm5' h, cell_kept cc0 h, cell_kept cc1 h, cell_kept cc2 h, cell_kept cc3 h, cell_kept e0' h, cell_kept e1' h, cell_kept e2' h, cell_kept e3' h, cell_kept e4' h, cell_kept e5' h⟩
    have TOS := Lib.hid toS
    clear toS
    refine wp_region_held_drew (S := fun w' => w'.cell? ⟨w4.heap.size, 0, none⟩ = some (.int .i64 c0) ∧ w'.cell? ⟨w4.heap.size, 1, none⟩ = some (.int .i64 d0) ∧ w'.cell? ⟨w4.heap.size, 2, none⟩ = some (.int .i64 c1) ∧ w'.cell? ⟨w4.heap.size, 3, none⟩ = some (.int .i64 d1) ∧ w'.cell? ⟨w4.heap.size, 4, none⟩ = some (.int .i64 s) ∧ w'.cell? ⟨w4.heap.size, 5, none⟩ = some (.slice A4 zm.length c4) ∧ w'.cell? ⟨bc, 0, none⟩ = some (.int .i64 c0) ∧ w'.cell? ⟨bc, 1, none⟩ = some (.int .i64 d0) ∧ w'.cell? ⟨bc, 2, none⟩ = some (.int .i64 c1) ∧ w'.cell? ⟨bc, 3, none⟩ = some (.int .i64 d1) ∧ w'.cell? ⟨w.heap.size, 0, none⟩ = some (.int .i64 x0) ∧ w'.cell? ⟨w.heap.size, 1, none⟩ = some (.int .i64 y0) ∧ w'.cell? ⟨w.heap.size, 2, none⟩ = some (.int .i64 x1) ∧ w'.cell? ⟨w.heap.size, 3, none⟩ = some (.int .i64 y1) ∧ w'.cell? ⟨w.heap.size, 4, none⟩ = some (.int .i64 s) ∧ w'.cell? ⟨w.heap.size, 5, none⟩ = some (.slice A zs.length c)) (by kernel_rfl) ?_ (fun hHeld => ?_)
    · (first | (refine TOS.out _ ?_; first | with_reducible exact P3 | with_reducible exact P2 | with_reducible exact P1 | with_reducible exact P0))
    refine wpAnyH_take (i := 0) (oi := _) (v := ?v0) rfl (by kernel_rfl) (by kernel_rfl) (by kernel_rfl) (fun _ _ _ h => h) (Or.inl ⟨by rfl, ?hy0⟩) (by assumption) ?rest0
    case hy0 => (intro w hSw; (try dsimp only at hSw); go_simp <;> with_reducible rfl)
    try simp only [Act.put, List.getElem_toArray, List.getElem_cons_succ, List.getElem_cons_zero, List.setIfInBounds_toArray, List.set_cons_zero, List.set_cons_succ]
    refine wpAnyH_take (i := 1) (oi := _) (v := ?v1) rfl (by kernel_rfl) (by kernel_rfl) (by kernel_rfl) (fun _ _ _ h => h) (Or.inl ⟨by rfl, ?hy1⟩) (by assumption) ?rest1
    case hy1 => (intro w hSw; (try dsimp only at hSw); go_simp <;> with_reducible rfl)
    try simp only [Act.put, List.getElem_toArray, List.getElem_cons_succ, List.getElem_cons_zero, List.setIfInBounds_toArray, List.set_cons_zero, List.set_cons_succ]
    refine wpAnyH_take (i := 3) (oi := _) (v := ?v3) rfl (by kernel_rfl) (by kernel_rfl) (by kernel_rfl) (fun _ _ _ h => h) (Or.inl ⟨by rfl, ?hy3⟩) (by assumption) ?rest3
    case hy3 => (intro w hSw; (try dsimp only at hSw); go_simp <;> with_reducible rfl)
    try simp only [Act.put, List.getElem_toArray, List.getElem_cons_succ, List.getElem_cons_zero, List.setIfInBounds_toArray, List.set_cons_zero, List.set_cons_succ]
    refine wpAnyH_ready (rs := [2]) (by kernel_rfl) (by simp) ?_
    refine AllReadyH.cons (o := _) rfl (fun K hK => ?_) AllReadyH.nil
    go_simp
    (go_at_call 21; refine (box_any c0 d0 c1 d1 _).mono ?_; rintro e v1 ⟨rfl, hq1⟩; have P1 : Below wc.heap.size wc v1 := P0.trans (hq1.mono P0.size))
    refine hK.out _ _ ?_ (fun hHeld => ?_)
    · (first | (refine TOS.out _ ?_; first | with_reducible exact P3 | with_reducible exact P2 | with_reducible exact P1 | with_reducible exact P0))
    clear hK K
    try simp only [Act.put, List.getElem_toArray, List.getElem_cons_succ, List.getElem_cons_zero, List.setIfInBounds_toArray, List.set_cons_zero, List.set_cons_succ]
    refine wpAnyH_take (i := 4) (oi := _) (v := ?v4) rfl (by kernel_rfl) (by kernel_rfl) (by kernel_rfl) (fun _ _ _ h => h) (Or.inl ⟨by rfl, ?hy4⟩) (by assumption) ?rest4
    case hy4 => (intro w hSw; (try dsimp only at hSw); go_simp <;> with_reducible rfl)
    try simp only [Act.put, List.getElem_toArray, List.getElem_cons_succ, List.getElem_cons_zero, List.setIfInBounds_toArray, List.set_cons_zero, List.set_cons_succ]
    refine wpAnyH_take (i := 5) (oi := _) (v := ?v5) rfl (by kernel_rfl) (by kernel_rfl) (by kernel_rfl) (fun _ _ _ h => h) (Or.inl ⟨by rfl, ?hy5⟩) (by assumption) ?rest5
    case hy5 => (intro w hSw; (try dsimp only at hSw); go_simp <;> with_reducible rfl)
    try simp only [Act.put, List.getElem_toArray, List.getElem_cons_succ, List.getElem_cons_zero, List.setIfInBounds_toArray, List.set_cons_zero, List.set_cons_succ]
    refine wpAnyH_take (i := 6) (oi := _) (v := ?v6) rfl (by kernel_rfl) (by kernel_rfl) (by kernel_rfl) (fun _ _ _ h => h) (Or.inl ⟨by rfl, ?hy6⟩) (by assumption) ?rest6
    case hy6 => (intro w hSw; (try dsimp only at hSw); go_simp <;> with_reducible rfl)
    try simp only [Act.put, List.getElem_toArray, List.getElem_cons_succ, List.getElem_cons_zero, List.setIfInBounds_toArray, List.set_cons_zero, List.set_cons_succ]
    refine wpAnyH_ready (rs := [7]) (by kernel_rfl) (by simp) ?_
    refine AllReadyH.cons (o := _) rfl (fun K hK => ?_) AllReadyH.nil
    go_simp
    (go_at_call 16; refine (fitsK_any c0 d0 c1 d1 s A4 c4 zm true (by simp [HFm.out]) _).mono ?_; rintro e v2 ⟨rfl, hq2⟩; have P2 : Below wc.heap.size wc v2 := P1.trans (hq2.mono P1.size))
    refine hK.out _ _ ?_ (fun hHeld => ?_)
    · (first | (refine TOS.out _ ?_; first | with_reducible exact P3 | with_reducible exact P2 | with_reducible exact P1 | with_reducible exact P0))
    clear hK K
    try simp only [Act.put, List.getElem_toArray, List.getElem_cons_succ, List.getElem_cons_zero, List.setIfInBounds_toArray, List.set_cons_zero, List.set_cons_succ]
    refine wpAnyH_take (i := 8) (oi := _) (v := ?v8) rfl (by kernel_rfl) (by kernel_rfl) (by kernel_rfl) (fun _ _ _ h => h) (Or.inl ⟨by rfl, ?hy8⟩) (by assumption) ?rest8
    case hy8 => (intro w hSw; (try dsimp only at hSw); go_simp <;> with_reducible rfl)
    try simp only [Act.put, List.getElem_toArray, List.getElem_cons_succ, List.getElem_cons_zero, List.setIfInBounds_toArray, List.set_cons_zero, List.set_cons_succ]
    refine wpAnyH_take (i := 9) (oi := _) (v := ?v9) rfl (by kernel_rfl) (by kernel_rfl) (by kernel_rfl) (fun _ _ _ h => h) (Or.inl ⟨by rfl, ?hy9⟩) (by assumption) ?rest9
    case hy9 => (intro w hSw; (try dsimp only at hSw); go_simp <;> with_reducible rfl)
    try simp only [Act.put, List.getElem_toArray, List.getElem_cons_succ, List.getElem_cons_zero, List.setIfInBounds_toArray, List.set_cons_zero, List.set_cons_succ]
    refine wpAnyH_take (i := 10) (oi := _) (v := ?v10) rfl (by kernel_rfl) (by kernel_rfl) (by kernel_rfl) (fun _ _ _ h => h) (Or.inl ⟨by rfl, ?hy10⟩) (by assumption) ?rest10
    case hy10 => (intro w hSw; (try dsimp only at hSw); go_simp <;> with_reducible rfl)
    try simp only [Act.put, List.getElem_toArray, List.getElem_cons_succ, List.getElem_cons_zero, List.setIfInBounds_toArray, List.set_cons_zero, List.set_cons_succ]
    refine wpAnyH_take (i := 11) (oi := _) (v := ?v11) rfl (by kernel_rfl) (by kernel_rfl) (by kernel_rfl) (fun _ _ _ h => h) (Or.inl ⟨by rfl, ?hy11⟩) (by assumption) ?rest11
    case hy11 => (intro w hSw; (try dsimp only at hSw); go_simp <;> with_reducible rfl)
    try simp only [Act.put, List.getElem_toArray, List.getElem_cons_succ, List.getElem_cons_zero, List.setIfInBounds_toArray, List.set_cons_zero, List.set_cons_succ]
    refine wpAnyH_take (i := 12) (oi := _) (v := ?v12) rfl (by kernel_rfl) (by kernel_rfl) (by kernel_rfl) (fun _ _ _ h => h) (Or.inl ⟨by rfl, ?hy12⟩) (by assumption) ?rest12
    case hy12 => (intro w hSw; (try dsimp only at hSw); go_simp <;> with_reducible rfl)
    try simp only [Act.put, List.getElem_toArray, List.getElem_cons_succ, List.getElem_cons_zero, List.setIfInBounds_toArray, List.set_cons_zero, List.set_cons_succ]
    refine wpAnyH_ready (rs := [13]) (by kernel_rfl) (by simp) ?_
    refine AllReadyH.cons (o := _) rfl (fun K hK => ?_) AllReadyH.nil
    go_simp
    (go_at_call 37; refine (insd_any c0 d0 c1 d1 x y false (by simp [hJ.out]) _).mono ?_; rintro e v3 ⟨rfl, hq3⟩; have P3 : Below wc.heap.size wc v3 := P2.trans (hq3.mono P2.size))
    refine hK.out _ _ ?_ (fun hHeld => ?_)
    · (first | (refine TOS.out _ ?_; first | with_reducible exact P3 | with_reducible exact P2 | with_reducible exact P1 | with_reducible exact P0))
    clear hK K
    try simp only [Act.put, List.getElem_toArray, List.getElem_cons_succ, List.getElem_cons_zero, List.setIfInBounds_toArray, List.set_cons_zero, List.set_cons_succ]
    refine wpAnyH_take (i := 14) (oi := _) (v := ?v14) rfl (by kernel_rfl) (by kernel_rfl) (by kernel_rfl) (fun _ _ _ h => h) (Or.inl ⟨by rfl, ?hy14⟩) (by assumption) ?rest14
    case hy14 => (intro w hSw; (try dsimp only at hSw); go_simp <;> with_reducible rfl)
    try simp only [Act.put, List.getElem_toArray, List.getElem_cons_succ, List.getElem_cons_zero, List.setIfInBounds_toArray, List.set_cons_zero, List.set_cons_succ]
    refine wpAnyH_take (i := 15) (oi := _) (v := ?v15) rfl (by kernel_rfl) (by kernel_rfl) (by kernel_rfl) (fun _ _ _ h => h) (Or.inl ⟨by rfl, ?hy15⟩) (by assumption) ?rest15
    case hy15 => (intro w hSw; (try dsimp only at hSw); go_simp <;> with_reducible rfl)
    try simp only [Act.put, List.getElem_toArray, List.getElem_cons_succ, List.getElem_cons_zero, List.setIfInBounds_toArray, List.set_cons_zero, List.set_cons_succ]
    refine wpAnyH_take (i := 16) (oi := _) (v := undef) rfl (by kernel_rfl) (by kernel_rfl) (by kernel_rfl) (fun _ _ _ h => h) (Or.inr ⟨by rfl, rfl⟩) (by assumption) ?_
    try simp only [Act.put, List.getElem_toArray, List.getElem_cons_succ, List.getElem_cons_zero, List.setIfInBounds_toArray, List.set_cons_zero, List.set_cons_succ]
    refine wpAnyH_take (i := 17) (oi := _) (v := undef) rfl (by kernel_rfl) (by kernel_rfl) (by kernel_rfl) (fun _ _ _ h => h) (Or.inr ⟨by rfl, rfl⟩) (by assumption) ?_
    try simp only [Act.put, List.getElem_toArray, List.getElem_cons_succ, List.getElem_cons_zero, List.setIfInBounds_toArray, List.set_cons_zero, List.set_cons_succ]
    refine wpAnyH_take (i := 18) (oi := _) (v := undef) rfl (by kernel_rfl) (by kernel_rfl) (by kernel_rfl) (fun _ _ _ h => h) (Or.inr ⟨by rfl, rfl⟩) (by assumption) ?_
    try simp only [Act.put, List.getElem_toArray, List.getElem_cons_succ, List.getElem_cons_zero, List.setIfInBounds_toArray, List.set_cons_zero, List.set_cons_succ]
    refine wpAnyH_take (i := 20) (oi := _) (v := undef) rfl (by kernel_rfl) (by kernel_rfl) (by kernel_rfl) (fun _ _ _ h => h) (Or.inr ⟨by rfl, rfl⟩) (by assumption) ?_
    try simp only [Act.put, List.getElem_toArray, List.getElem_cons_succ, List.getElem_cons_zero, List.setIfInBounds_toArray, List.set_cons_zero, List.set_cons_succ]
    refine wpAnyH_take (i := 21) (oi := _) (v := undef) rfl (by kernel_rfl) (by kernel_rfl) (by kernel_rfl) (fun _ _ _ h => h) (Or.inr ⟨by rfl, rfl⟩) (by assumption) ?_
    try simp only [Act.put, List.getElem_toArray, List.getElem_cons_succ, List.getElem_cons_zero, List.setIfInBounds_toArray, List.set_cons_zero, List.set_cons_succ]
    refine wpAnyH_take (i := 22) (oi := _) (v := undef) rfl (by kernel_rfl) (by kernel_rfl) (by kernel_rfl) (fun _ _ _ h => h) (Or.inr ⟨by rfl, rfl⟩) (by assumption) ?_
    try simp only [Act.put, List.getElem_toArray, List.getElem_cons_succ, List.getElem_cons_zero, List.setIfInBounds_toArray, List.set_cons_zero, List.set_cons_succ]
    refine wpAnyH_ready (rs := [19]) (by kernel_rfl) (by simp) ?_
    refine AllReadyH.cons (o := _) rfl (fun K hK => ?_) AllReadyH.nil
    go_simp
    refine hK.out _ _ ?_ (fun hHeld => ?_)
    · (first | (refine TOS.out _ ?_; first | with_reducible exact P3 | with_reducible exact P2 | with_reducible exact P1 | with_reducible exact P0))
    clear hK K
    try simp only [Act.put, List.getElem_toArray, List.getElem_cons_succ, List.getElem_cons_zero, List.setIfInBounds_toArray, List.set_cons_zero, List.set_cons_succ]
    refine wpAnyH_ready (rs := [23]) (by kernel_rfl) (by simp) ?_
    refine AllReadyH.cons (o := _) rfl (fun K hK => ?_) AllReadyH.nil
    go_simp
    refine hK.out _ _ ?_ (fun hHeld => ?_)
    · (first | (refine TOS.out _ ?_; first | with_reducible exact P3 | with_reducible exact P2 | with_reducible exact P1 | with_reducible exact P0))
    clear hK K
    try simp only [Act.put, List.getElem_toArray, List.getElem_cons_succ, List.getElem_cons_zero, List.setIfInBounds_toArray, List.set_cons_zero, List.set_cons_succ]
    refine wpAnyH_take (i := 24) (oi := _) (v := undef) rfl (by kernel_rfl) (by kernel_rfl) (by kernel_rfl) (fun _ _ _ h => h) (Or.inr ⟨by rfl, rfl⟩) (by assumption) ?_
    try simp only [Act.put, List.getElem_toArray, List.getElem_cons_succ, List.getElem_cons_zero, List.setIfInBounds_toArray, List.set_cons_zero, List.set_cons_succ]
    refine wpAnyH_take (i := 25) (oi := _) (v := ?v25) rfl (by kernel_rfl) (by kernel_rfl) (by kernel_rfl) (fun _ _ _ h => h) (Or.inl ⟨by rfl, ?hy25⟩) (by assumption) ?rest25
    case hy25 => (intro w hSw; (try dsimp only at hSw); go_simp <;> with_reducible rfl)
    try simp only [Act.put, List.getElem_toArray, List.getElem_cons_succ, List.getElem_cons_zero, List.setIfInBounds_toArray, List.set_cons_zero, List.set_cons_succ]
    refine wpAnyH_take (i := 26) (oi := _) (v := ?v26) rfl (by kernel_rfl) (by kernel_rfl) (by kernel_rfl) (fun _ _ _ h => h) (Or.inl ⟨by rfl, ?hy26⟩) (by assumption) ?rest26
    case hy26 => (intro w hSw; (try dsimp only at hSw); go_simp <;> with_reducible rfl)
    try simp only [Act.put, List.getElem_toArray, List.getElem_cons_succ, List.getElem_cons_zero, List.setIfInBounds_toArray, List.set_cons_zero, List.set_cons_succ]
    refine wpAnyH_take (i := 27) (oi := _) (v := ?v27) rfl (by kernel_rfl) (by kernel_rfl) (by kernel_rfl) (fun _ _ _ h => h) (Or.inl ⟨by rfl, ?hy27⟩) (by assumption) ?rest27
    case hy27 => (intro w hSw; (try dsimp only at hSw); go_simp <;> with_reducible rfl)
    try simp only [Act.put, List.getElem_toArray, List.getElem_cons_succ, List.getElem_cons_zero, List.setIfInBounds_toArray, List.set_cons_zero, List.set_cons_succ]
    refine wpAnyH_done (by kernel_rfl) ?_ _
    go_wp2
    go_ret
    exact ⟨by simp, hBx.trans (P3.mono hBx.size)⟩

set_option maxRecDepth 100000 in
set_option maxHeartbeats 4000000 in
theorem sub_some_in (x0 y0 x1 y1 s : Int) (A : Option Addr) (c : Nat) (zs : List Int) (a0 b0 a1 b1 x y : Int) (w : World) (hr : Hid (Reads w A zs)) (hy : Hid (Bytes zs)) (hl : Small zs) (hn : Hid (A = none → c = 0)) (hF : Hid (Fits x0 y0 x1 y1 s 8 zs.length)) (hN : Hid (Near4 a0 b0 a1 b1)) (c0 d0 c1 d1 : Int) (m1 : Hid (max x0 a0 = c0)) (m2 : Hid (max y0 b0 = d0)) (m3 : Hid (min x1 a1 = c1)) (m4 : Hid (min y1 b1 = d1)) (n5 : c0 < c1) (n6 : d0 < d1) (hJ : Hid (Insd c0 d0 c1 d1 x y)) :
    Calls Try.prog 11 #[.agg #[.int .i64 x0, .int .i64 y0, .int .i64 x1, .int .i64 y1, .int .i64 s, .slice A zs.length c], .agg #[.int .i64 a0, .int .i64 b0, .int .i64 a1, .int .i64 b1], .int .i64 x, .int .i64 y] w fun e w' => e = .returned (.bool true) ∧ Below w.heap.size w w' := by
  have hW : Hid (Within c0 d0 c1 d1 x0 y0 x1 y1) := by unfold Hid; rw [← m1.out, ← m2.out, ← m3.out, ← m4.out]; exact within_of _ _ _ _ _ _ _ _
  have hI0 : Hid (Insd x0 y0 x1 y1 c0 d0) := hW.out.insd ⟨Int.le_refl _, n5, Int.le_refl _, n6⟩
  obtain ⟨q1, q2, q3, q4⟩ : -4398046511104 ≤ d0 - y0 ∧ d0 - y0 ≤ 4398046511104 ∧ -4398046511104 ≤ c0 - x0 ∧ c0 - x0 ≤ 4398046511104 := near_point hF.out hI0.out
  obtain ⟨p1, p2⟩ : -2305843009213693952 ≤ (d0 - y0) * s ∧ (d0 - y0) * s ≤ 2305843009213693952 := (by have := hF.out.prods hI0.out; omega)
  obtain ⟨k, hK, hk⟩ := hF.out.place (z := 8) rfl hI0.out
  have HK := Lib.hid hK
  have Hk : Hid (k < zs.length) := by unfold Hid; omega
  have N5 : Hid (max x0 a0 < min x1 a1) := by unfold Hid; rw [m1.out, m3.out]; exact n5
  have N6 : Hid (max y0 b0 < min y1 b1) := by unfold Hid; rw [m2.out, m4.out]; exact n6
  have HFm : Hid (Fits c0 d0 c1 d1 s 8 (zs.drop k).length) := by unfold Hid; rw [List.length_drop]; exact fits_sub hF.out hW.out n5 n6 hK (by omega)
  have HYm := Lib.hid (drop_bytes hy.out k)
  have hlm := drop_small hl k
  have HLEN : Hid ((zs.drop k).length + k = zs.length) := by unfold Hid; rw [List.length_drop]; omega
  have HNUM := Lib.hid (fun j => numAt_drop zs k j)
  have ISUB := fun (w' : World) (h : Hid (Reads w' A zs)) => implSub_some x0 y0 x1 y1 s a0 b0 a1 b1 c0 d0 c1 d1 A c k zs w' h hl hn m1 m2 m3 m4 n5 n6 HK Hk q1 q2 q3 q4 p1 p2
  have ISUB := Lib.hid ISUB
  generalize zs.drop k = zm at HFm HYm hlm HLEN HNUM ISUB
  obtain ⟨nx1, nx2, nx3, nx4⟩ : x0 < x1 ∧ y0 < y1 ∧ a0 < a1 ∧ b0 < b1 := by have := N5.out; have := N6.out; omega
  have hI : Hid (Insd x0 y0 x1 y1 x y) := hW.out.insd hJ.out
  obtain ⟨r1, r2, r3, r4⟩ : -4398046511104 ≤ y - d0 ∧ y - d0 ≤ 4398046511104 ∧ -4398046511104 ≤ x - c0 ∧ x - c0 ≤ 4398046511104 := near_point HFm.out hJ.out
  obtain ⟨t1, t2⟩ : -2305843009213693952 ≤ (y - d0) * s ∧ (y - d0) * s ≤ 2305843009213693952 := (by have := HFm.out.prods hJ.out; omega)
  obtain ⟨s1, s2, s3, s4⟩ : -4398046511104 ≤ y - y0 ∧ y - y0 ≤ 4398046511104 ∧ -4398046511104 ≤ x - x0 ∧ x - x0 ≤ 4398046511104 := near_point hF.out hI.out
  obtain ⟨z1, z2⟩ : -2305843009213693952 ≤ (y - y0) * s ∧ (y - y0) * s ≤ 2305843009213693952 := (by have := hF.out.prods hI.out; omega)
  obtain ⟨j, hj, hjn⟩ := HFm.out.place (z := 8) rfl hJ.out
  have HJ := Lib.hid hj
  have Hj : Hid (j + 8 ≤ zm.length) := by unfold Hid; omega
  have HKJ : Hid ((y - y0) * s + (x - x0) * 8 = ((k + j : Nat) : Int)) := by unfold Hid; rw [offs_split c0 d0 x0 y0 s x y, hK, hj]; omega
  have Hkj : Hid (k + j + 8 ≤ zs.length) := by unfold Hid; have := HLEN.out; omega
  have HNUM : Hid (numAt zm j = numAt zs (k + j) ∧ numAt zm (j + 2) = numAt zs (k + j + 2) ∧ numAt zm (j + 4) = numAt zs (k + j + 4) ∧ numAt zm (j + 6) = numAt zs (k + j + 6)) := ⟨HNUM.out j, HNUM.out (j + 2), HNUM.out (j + 4), HNUM.out (j + 6)⟩
  have tok2 : True := trivial
  clear hj hjn
  have S0 : w.heap.size + 1 < ((w.alloc (.cells #[.int .i64 x0, .int .i64 y0, .int .i64 x1, .int .i64 y1, .int .i64 s, .slice A zs.length c] 26)).alloc (.cells #[.int .i64 a0, .int .i64 b0, .int .i64 a1, .int .i64 b1] 23)).heap.size ∧ Below w.heap.size w ((w.alloc (.cells #[.int .i64 x0, .int .i64 y0, .int .i64 x1, .int .i64 y1, .int .i64 s, .slice A zs.length c] 26)).alloc (.cells #[.int .i64 a0, .int .i64 b0, .int .i64 a1, .int .i64 b1] 23)) ∧ ((w.alloc (.cells #[.int .i64 x0, .int .i64 y0, .int .i64 x1, .int .i64 y1, .int .i64 s, .slice A zs.length c] 26)).alloc (.cells #[.int .i64 a0, .int .i64 b0, .int .i64 a1, .int .i64 b1] 23)).cell? ⟨w.heap.size, 0, none⟩ = some (.int .i64 x0) ∧ ((w.alloc (.cells #[.int .i64 x0, .int .i64 y0, .int .i64 x1, .int .i64 y1, .int .i64 s, .slice A zs.length c] 26)).alloc (.cells #[.int .i64 a0, .int .i64 b0, .int .i64 a1, .int .i64 b1] 23)).cell? ⟨w.heap.size, 1, none⟩ = some (.int .i64 y0) ∧ ((w.alloc (.cells #[.int .i64 x0, .int .i64 y0, .int .i64 x1, .int .i64 y1, .int .i64 s, .slice A zs.length c] 26)).alloc (.cells #[.int .i64 a0, .int .i64 b0, .int .i64 a1, .int .i64 b1] 23)).cell? ⟨w.heap.size, 2, none⟩ = some (.int .i64 x1) ∧ ((w.alloc (.cells #[.int .i64 x0, .int .i64 y0, .int .i64 x1, .int .i64 y1, .int .i64 s, .slice A zs.length c] 26)).alloc (.cells #[.int .i64 a0, .int .i64 b0, .int .i64 a1, .int .i64 b1] 23)).cell? ⟨w.heap.size, 3, none⟩ = some (.int .i64 y1) ∧ ((w.alloc (.cells #[.int .i64 x0, .int .i64 y0, .int .i64 x1, .int .i64 y1, .int .i64 s, .slice A zs.length c] 26)).alloc (.cells #[.int .i64 a0, .int .i64 b0, .int .i64 a1, .int .i64 b1] 23)).cell? ⟨w.heap.size, 4, none⟩ = some (.int .i64 s) ∧ ((w.alloc (.cells #[.int .i64 x0, .int .i64 y0, .int .i64 x1, .int .i64 y1, .int .i64 s, .slice A zs.length c] 26)).alloc (.cells #[.int .i64 a0, .int .i64 b0, .int .i64 a1, .int .i64 b1] 23)).cell? ⟨w.heap.size, 5, none⟩ = some (.slice A zs.length c) ∧ ((w.alloc (.cells #[.int .i64 x0, .int .i64 y0, .int .i64 x1, .int .i64 y1, .int .i64 s, .slice A zs.length c] 26)).alloc (.cells #[.int .i64 a0, .int .i64 b0, .int .i64 a1, .int .i64 b1] 23)).cell? ⟨w.heap.size + 1, 0, none⟩ = some (.int .i64 a0) ∧ ((w.alloc (.cells #[.int .i64 x0, .int .i64 y0, .int .i64 x1, .int .i64 y1, .int .i64 s, .slice A zs.length c] 26)).alloc (.cells #[.int .i64 a0, .int .i64 b0, .int .i64 a1, .int .i64 b1] 23)).cell? ⟨w.heap.size + 1, 1, none⟩ = some (.int .i64 b0) ∧ ((w.alloc (.cells #[.int .i64 x0, .int .i64 y0, .int .i64 x1, .int .i64 y1, .int .i64 s, .slice A zs.length c] 26)).alloc (.cells #[.int .i64 a0, .int .i64 b0, .int .i64 a1, .int .i64 b1] 23)).cell? ⟨w.heap.size + 1, 2, none⟩ = some (.int .i64 a1) ∧ ((w.alloc (.cells #[.int .i64 x0, .int .i64 y0, .int .i64 x1, .int .i64 y1, .int .i64 s, .slice A zs.length c] 26)).alloc (.cells #[.int .i64 a0, .int .i64 b0, .int .i64 a1, .int .i64 b1] 23)).cell? ⟨w.heap.size + 1, 3, none⟩ = some (.int .i64 b1) := ⟨by simp, ((Below.refl _ _).alloc (Nat.le_refl _) _).alloc (by simp) _, by first | (simp; done) | go_simp, by first | (simp; done) | go_simp, by first | (simp; done) | go_simp, by first | (simp; done) | go_simp, by first | (simp; done) | go_simp, by first | (simp; done) | go_simp, by first | (simp; done) | go_simp, by first | (simp; done) | go_simp, by first | (simp; done) | go_simp, by first | (simp; done) | go_simp⟩
  go_enter Try.func11, Try.ntmps11
  go_wp2_with fail
  refine (fitsK_any x0 y0 x1 y1 s A c zs true (by simp [hF.out]) _).mono ?_
  rintro e w1 ⟨rfl, hb1⟩
  have S1 : w.heap.size + 1 < w1.heap.size ∧ Below w.heap.size w w1 ∧ w1.cell? ⟨w.heap.size, 0, none⟩ = some (.int .i64 x0) ∧ w1.cell? ⟨w.heap.size, 1, none⟩ = some (.int .i64 y0) ∧ w1.cell? ⟨w.heap.size, 2, none⟩ = some (.int .i64 x1) ∧ w1.cell? ⟨w.heap.size, 3, none⟩ = some (.int .i64 y1) ∧ w1.cell? ⟨w.heap.size, 4, none⟩ = some (.int .i64 s) ∧ w1.cell? ⟨w.heap.size, 5, none⟩ = some (.slice A zs.length c) ∧ w1.cell? ⟨w.heap.size + 1, 0, none⟩ = some (.int .i64 a0) ∧ w1.cell? ⟨w.heap.size + 1, 1, none⟩ = some (.int .i64 b0) ∧ w1.cell? ⟨w.heap.size + 1, 2, none⟩ = some (.int .i64 a1) ∧ w1.cell? ⟨w.heap.size + 1, 3, none⟩ = some (.int .i64 b1) := ⟨Nat.lt_of_lt_of_le S0.1 hb1.size, S0.2.1.trans (hb1.mono S0.2.1.size), cell_kept S0.2.2.1 hb1, cell_kept S0.2.2.2.1 hb1, cell_kept S0.2.2.2.2.1 hb1, cell_kept S0.2.2.2.2.2.1 hb1, cell_kept S0.2.2.2.2.2.2.1 hb1, cell_kept S0.2.2.2.2.2.2.2.1 hb1, cell_kept S0.2.2.2.2.2.2.2.2.1 hb1, cell_kept S0.2.2.2.2.2.2.2.2.2.1 hb1, cell_kept S0.2.2.2.2.2.2.2.2.2.2.1 hb1, cell_kept S0.2.2.2.2.2.2.2.2.2.2.2 hb1⟩
  obtain ⟨hz1, hB1, c1_0, c1_1, c1_2, c1_3, c1_4, c1_5, c1_6, c1_7, c1_8, c1_9⟩ := id S1
  clear hb1 S0
  go_wp2_with fail
  refine (box_any a0 b0 a1 b1 _).mono ?_
  rintro e w2 ⟨rfl, hb2⟩
  have S2 : w.heap.size + 1 < w2.heap.size ∧ Below w.heap.size w w2 ∧ w2.cell? ⟨w.heap.size, 0, none⟩ = some (.int .i64 x0) ∧ w2.cell? ⟨w.heap.size, 1, none⟩ = some (.int .i64 y0) ∧ w2.cell? ⟨w.heap.size, 2, none⟩ = some (.int .i64 x1) ∧ w2.cell? ⟨w.heap.size, 3, none⟩ = some (.int .i64 y1) ∧ w2.cell? ⟨w.heap.size, 4, none⟩ = some (.int .i64 s) ∧ w2.cell? ⟨w.heap.size, 5, none⟩ = some (.slice A zs.length c) ∧ w2.cell? ⟨w.heap.size + 1, 0, none⟩ = some (.int .i64 a0) ∧ w2.cell? ⟨w.heap.size + 1, 1, none⟩ = some (.int .i64 b0) ∧ w2.cell? ⟨w.heap.size + 1, 2, none⟩ = some (.int .i64 a1) ∧ w2.cell? ⟨w.heap.size + 1, 3, none⟩ = some (.int .i64 b1) := ⟨Nat.lt_of_lt_of_le S1.1 hb2.size, S1.2.1.trans (hb2.mono S1.2.1.size), cell_kept S1.2.2.1 hb2, cell_kept S1.2.2.2.1 hb2, cell_kept S1.2.2.2.2.1 hb2, cell_kept S1.2.2.2.2.2.1 hb2, cell_kept S1.2.2.2.2.2.2.1 hb2, cell_kept S1.2.2.2.2.2.2.2.1 hb2, cell_kept S1.2.2.2.2.2.2.2.2.1 hb2, cell_kept S1.2.2.2.2.2.2.2.2.2.1 hb2, cell_kept S1.2.2.2.2.2.2.2.2.2.2.1 hb2, cell_kept S1.2.2.2.2.2.2.2.2.2.2.2 hb2⟩
  obtain ⟨hz2, hB2, c2_0, c2_1, c2_2, c2_3, c2_4, c2_5, c2_6, c2_7, c2_8, c2_9⟩ := id S2
  clear hb2 S1 hz1 hB1 c1_0 c1_1 c1_2 c1_3 c1_4 c1_5 c1_6 c1_7 c1_8 c1_9
  go_wp2_with fail
  refine (near4_any a0 b0 a1 b1 true (by simp [hN.out]) _).mono ?_
  rintro e w3 ⟨rfl, hb3⟩
  have S3 : w.heap.size + 1 < w3.heap.size ∧ Below w.heap.size w w3 ∧ w3.cell? ⟨w.heap.size, 0, none⟩ = some (.int .i64 x0) ∧ w3.cell? ⟨w.heap.size, 1, none⟩ = some (.int .i64 y0) ∧ w3.cell? ⟨w.heap.size, 2, none⟩ = some (.int .i64 x1) ∧ w3.cell? ⟨w.heap.size, 3, none⟩ = some (.int .i64 y1) ∧ w3.cell? ⟨w.heap.size, 4, none⟩ = some (.int .i64 s) ∧ w3.cell? ⟨w.heap.size, 5, none⟩ = some (.slice A zs.length c) ∧ w3.cell? ⟨w.heap.size + 1, 0, none⟩ = some (.int .i64 a0) ∧ w3.cell? ⟨w.heap.size + 1, 1, none⟩ = some (.int .i64 b0) ∧ w3.cell? ⟨w.heap.size + 1, 2, none⟩ = some (.int .i64 a1) ∧ w3.cell? ⟨w.heap.size + 1, 3, none⟩ = some (.int .i64 b1) := ⟨Nat.lt_of_lt_of_le S2.1 hb3.size, S2.2.1.trans (hb3.mono S2.2.1.size), cell_kept S2.2.2.1 hb3, cell_kept S2.2.2.2.1 hb3, cell_kept S2.2.2.2.2.1 hb3, cell_kept S2.2.2.2.2.2.1 hb3, cell_kept S2.2.2.2.2.2.2.1 hb3, cell_kept S2.2.2.2.2.2.2.2.1 hb3, cell_kept S2.2.2.2.2.2.2.2.2.1 hb3, cell_kept S2.2.2.2.2.2.2.2.2.2.1 hb3, cell_kept S2.2.2.2.2.2.2.2.2.2.2.1 hb3, cell_kept S2.2.2.2.2.2.2.2.2.2.2.2 hb3⟩
  obtain ⟨hz3, hB3, c3_0, c3_1, c3_2, c3_3, c3_4, c3_5, c3_6, c3_7, c3_8, c3_9⟩ := id S3
  clear hb3 S2 hz2 hB2 c2_0 c2_1 c2_2 c2_3 c2_4 c2_5 c2_6 c2_7 c2_8 c2_9
  go_wp2_with fail
  refine (ISUB.out _ (hr.out.below hB3)).mono ?_
  rintro e w4 ⟨A4, c4, rfl, hown4, hb4⟩
  have S4 : w.heap.size + 1 < w4.heap.size ∧ Below w.heap.size w w4 ∧ w4.cell? ⟨w.heap.size, 0, none⟩ = some (.int .i64 x0) ∧ w4.cell? ⟨w.heap.size, 1, none⟩ = some (.int .i64 y0) ∧ w4.cell? ⟨w.heap.size, 2, none⟩ = some (.int .i64 x1) ∧ w4.cell? ⟨w.heap.size, 3, none⟩ = some (.int .i64 y1) ∧ w4.cell? ⟨w.heap.size, 4, none⟩ = some (.int .i64 s) ∧ w4.cell? ⟨w.heap.size, 5, none⟩ = some (.slice A zs.length c) ∧ w4.cell? ⟨w.heap.size + 1, 0, none⟩ = some (.int .i64 a0) ∧ w4.cell? ⟨w.heap.size + 1, 1, none⟩ = some (.int .i64 b0) ∧ w4.cell? ⟨w.heap.size + 1, 2, none⟩ = some (.int .i64 a1) ∧ w4.cell? ⟨w.heap.size + 1, 3, none⟩ = some (.int .i64 b1) := ⟨Nat.lt_of_lt_of_le S3.1 hb4.size, S3.2.1.trans (hb4.mono S3.2.1.size), cell_kept S3.2.2.1 hb4, cell_kept S3.2.2.2.1 hb4, cell_kept S3.2.2.2.2.1 hb4, cell_kept S3.2.2.2.2.2.1 hb4, cell_kept S3.2.2.2.2.2.2.1 hb4, cell_kept S3.2.2.2.2.2.2.2.1 hb4, cell_kept S3.2.2.2.2.2.2.2.2.1 hb4, cell_kept S3.2.2.2.2.2.2.2.2.2.1 hb4, cell_kept S3.2.2.2.2.2.2.2.2.2.2.1 hb4, cell_kept S3.2.2.2.2.2.2.2.2.2.2.2 hb4⟩
  have HR4 := Lib.hid ((Reads.of_own hown4).below ((Below.refl _ _).alloc (Nat.le_refl _) (.cells #[.int .i64 c0, .int .i64 d0, .int .i64 c1, .int .i64 d1, .int .i64 s, .slice A4 zm.length c4] 26)))
  have HN4 := Lib.hid (own_nil hown4)
  have aw : Below w4.heap.size w4 (w4.alloc (.cells #[.int .i64 c0, .int .i64 d0, .int .i64 c1, .int .i64 d1, .int .i64 s, .slice A4 zm.length c4] 26)) := (Below.refl _ _).alloc (Nat.le_refl _) _
  have mm0 : (w4.alloc (.cells #[.int .i64 c0, .int .i64 d0, .int .i64 c1, .int .i64 d1, .int .i64 s, .slice A4 zm.length c4] 26)).cell? ⟨w4.heap.size, 0, none⟩ = some (.int .i64 c0) := by simp
  have mm1 : (w4.alloc (.cells #[.int .i64 c0, .int .i64 d0, .int .i64 c1, .int .i64 d1, .int .i64 s, .slice A4 zm.length c4] 26)).cell? ⟨w4.heap.size, 1, none⟩ = some (.int .i64 d0) := by simp
  have mm2 : (w4.alloc (.cells #[.int .i64 c0, .int .i64 d0, .int .i64 c1, .int .i64 d1, .int .i64 s, .slice A4 zm.length c4] 26)).cell? ⟨w4.heap.size, 2, none⟩ = some (.int .i64 c1) := by simp
  have mm3 : (w4.alloc (.cells #[.int .i64 c0, .int .i64 d0, .int .i64 c1, .int .i64 d1, .int .i64 s, .slice A4 zm.length c4] 26)).cell? ⟨w4.heap.size, 3, none⟩ = some (.int .i64 d1) := by simp
  have mm4 : (w4.alloc (.cells #[.int .i64 c0, .int .i64 d0, .int .i64 c1, .int .i64 d1, .int .i64 s, .slice A4 zm.length c4] 26)).cell? ⟨w4.heap.size, 4, none⟩ = some (.int .i64 s) := by simp
  have mm5 : (w4.alloc (.cells #[.int .i64 c0, .int .i64 d0, .int .i64 c1, .int .i64 d1, .int .i64 s, .slice A4 zm.length c4] 26)).cell? ⟨w4.heap.size, 5, none⟩ = some (.slice A4 zm.length c4) := by simp
  have e0 := cell_kept S4.2.2.1 aw
  have e1 := cell_kept S4.2.2.2.1 aw
  have e2 := cell_kept S4.2.2.2.2.1 aw
  have e3 := cell_kept S4.2.2.2.2.2.1 aw
  have e4 := cell_kept S4.2.2.2.2.2.2.1 aw
  have e5 := cell_kept S4.2.2.2.2.2.2.2.1 aw
  have e6 := cell_kept S4.2.2.2.2.2.2.2.2.1 aw
  have e7 := cell_kept S4.2.2.2.2.2.2.2.2.2.1 aw
  have e8 := cell_kept S4.2.2.2.2.2.2.2.2.2.2.1 aw
  have e9 := cell_kept S4.2.2.2.2.2.2.2.2.2.2.2 aw
  have hBw : Below w.heap.size w (w4.alloc (.cells #[.int .i64 c0, .int .i64 d0, .int .i64 c1, .int .i64 d1, .int .i64 s, .slice A4 zm.length c4] 26)) := S4.2.1.trans (aw.mono S4.2.1.size)
  have hMb : w4.heap.size < (w4.alloc (.cells #[.int .i64 c0, .int .i64 d0, .int .i64 c1, .int .i64 d1, .int .i64 s, .slice A4 zm.length c4] 26)).heap.size := by simp
  clear hown4 hb4 S3 S4 aw hz3 hB3 c3_0 c3_1 c3_2 c3_3 c3_4 c3_5 c3_6 c3_7 c3_8 c3_9
  have tok1 : True := trivial
  go_wp2_with fail
  generalize w4.alloc (.cells #[.int .i64 c0, .int .i64 d0, .int .i64 c1, .int .i64 d1, .int .i64 s, .slice A4 zm.length c4] 26) = Wm at *
  go_upto_region 4 with fail
  have P0 : Below Wm.heap.size Wm Wm.drew := (Below.refl _ _).drew
  have P0a : Below Wm.heap.size Wm (Wm.alloc (.cells #[.int .i64 0, .int .i64 0, .int .i64 0, .int .i64 0] 32)).drew := ((Below.refl _ _).alloc (Nat.le_refl _) _).drew
  have toS : ∀ W' : World, Below Wm.heap.size Wm W' → (W'.cell? ⟨w.heap.size, 0, none⟩ = some (.int .i64 x0) ∧ W'.cell? ⟨w.heap.size, 1, none⟩ = some (.int .i64 y0) ∧ W'.cell? ⟨w.heap.size, 2, none⟩ = some (.int .i64 x1) ∧ W'.cell? ⟨w.heap.size, 3, none⟩ = some (.int .i64 y1) ∧ W'.cell? ⟨w.heap.size + 1, 0, none⟩ = some (.int .i64 a0) ∧ W'.cell? ⟨w.heap.size + 1, 1, none⟩ = some (.int .i64 b0) ∧ W'.cell? ⟨w.heap.size + 1, 2, none⟩ = some (.int .i64 a1) ∧ W'.cell? ⟨w.heap.size + 1, 3, none⟩ = some (.int .i64 b1)) := fun W' h => ⟨cell_kept e0 h, cell_kept e1 h, cell_kept e2 h, cell_kept e3 h, cell_kept e6 h, cell_kept e7 h, cell_kept e8 h, cell_kept e9 h⟩
  have TOS := Lib.hid toS
  clear toS
  go_cut [11, 12] (fun pp qq wx => ∃ bc : Nat, pp = .pointer (some ⟨bc, 0, none⟩) ∧ qq = .bool true ∧ Wm.heap.size ≤ bc ∧ bc < wx.heap.size ∧ Below Wm.heap.size Wm wx ∧ wx.cell? ⟨bc, 0, none⟩ = some (.int .i64 c0) ∧ wx.cell? ⟨bc, 1, none⟩ = some (.int .i64 d0) ∧ wx.cell? ⟨bc, 2, none⟩ = some (.int .i64 c1) ∧ wx.cell? ⟨bc, 3, none⟩ = some (.int .i64 d1))
  case first =>
    go_region_held3 (fun w' => w'.cell? ⟨w.heap.size, 0, none⟩ = some (.int .i64 x0) ∧ w'.cell? ⟨w.heap.size, 1, none⟩ = some (.int .i64 y0) ∧ w'.cell? ⟨w.heap.size, 2, none⟩ = some (.int .i64 x1) ∧ w'.cell? ⟨w.heap.size, 3, none⟩ = some (.int .i64 y1) ∧ w'.cell? ⟨w.heap.size + 1, 0, none⟩ = some (.int .i64 a0) ∧ w'.cell? ⟨w.heap.size + 1, 1, none⟩ = some (.int .i64 b0) ∧ w'.cell? ⟨w.heap.size + 1, 2, none⟩ = some (.int .i64 a1) ∧ w'.cell? ⟨w.heap.size + 1, 3, none⟩ = some (.int .i64 b1))
      ((refine TOS.out _ ?_; first | with_reducible exact P0 | with_reducible exact P0a | with_reducible exact P1 | with_reducible exact P1.alloc P1.size _ | with_reducible exact P2 | with_reducible exact P2.alloc P2.size _ | with_reducible exact P3 | with_reducible exact P3.alloc P3.size _ | with_reducible exact ((((P3.setCell (Nat.le_refl _) _).setCell (Nat.le_refl _) _).setCell (Nat.le_refl _) _).setCell (Nat.le_refl _) _) | with_reducible exact ((((P3.setCell P1.size _).setCell P1.size _).setCell P1.size _).setCell P1.size _) | with_reducible exact ((((P3.setCell P2.size _).setCell P2.size _).setCell P2.size _).setCell P2.size _)))
      (first | (go_at_call 21; have _t := tok1; refine (box_any x0 y0 x1 y1 _).mono ?_; rintro e u1 ⟨rfl, hv1⟩; clear tok1; (first | (have P1 : Below Wm.heap.size Wm u1 := P0.trans (hv1.mono P0.size); (try (replace zf0 := frozen_kept zc0 zf0 hv1; replace zc0 := cell_kept zc0 hv1; replace zf1 := frozen_kept zc1 zf1 hv1; replace zc1 := cell_kept zc1 hv1; replace zf2 := frozen_kept zc2 zf2 hv1; replace zc2 := cell_kept zc2 hv1; replace zf3 := frozen_kept zc3 zf3 hv1; replace zc3 := cell_kept zc3 hv1))) | (have P1 : Below Wm.heap.size Wm u1 := P0a.trans (hv1.mono P0a.size); have zc0 : u1.cell? ⟨Wm.heap.size, 0, none⟩ = some (.int .i64 0) := ((bcell hv1).1 _ 0 (by simp)).trans (by simp); have zf0 : u1.frozen? ⟨Wm.heap.size, 0, none⟩ = false := ((bcell hv1).2 _ 0 (by simp)).trans (by simp); have zc1 : u1.cell? ⟨Wm.heap.size, 1, none⟩ = some (.int .i64 0) := ((bcell hv1).1 _ 1 (by simp)).trans (by simp); have zf1 : u1.frozen? ⟨Wm.heap.size, 1, none⟩ = false := ((bcell hv1).2 _ 1 (by simp)).trans (by simp); have zc2 : u1.cell? ⟨Wm.heap.size, 2, none⟩ = some (.int .i64 0) := ((bcell hv1).1 _ 2 (by simp)).trans (by simp); have zf2 : u1.frozen? ⟨Wm.heap.size, 2, none⟩ = false := ((bcell hv1).2 _ 2 (by simp)).trans (by simp); have zc3 : u1.cell? ⟨Wm.heap.size, 3, none⟩ = some (.int .i64 0) := ((bcell hv1).1 _ 3 (by simp)).trans (by simp); have zf3 : u1.frozen? ⟨Wm.heap.size, 3, none⟩ = false := ((bcell hv1).2 _ 3 (by simp)).trans (by simp)))) | (go_at_call 21; refine (box_any a0 b0 a1 b1 _).mono ?_; rintro e u2 ⟨rfl, hv2⟩; (first | (have P2 : Below Wm.heap.size Wm u2 := P1.trans (hv2.mono P1.size); (try (replace zf0 := frozen_kept zc0 zf0 hv2; replace zc0 := cell_kept zc0 hv2; replace zf1 := frozen_kept zc1 zf1 hv2; replace zc1 := cell_kept zc1 hv2; replace zf2 := frozen_kept zc2 zf2 hv2; replace zc2 := cell_kept zc2 hv2; replace zf3 := frozen_kept zc3 zf3 hv2; replace zc3 := cell_kept zc3 hv2))) | (have P2 : Below Wm.heap.size Wm u2 := (P1.alloc P1.size (.cells #[.int .i64 0, .int .i64 0, .int .i64 0, .int .i64 0] 32)).trans (hv2.mono (P1.alloc P1.size (.cells #[.int .i64 0, .int .i64 0, .int .i64 0, .int .i64 0] 32)).size); have zc0 : u2.cell? ⟨u1.heap.size, 0, none⟩ = some (.int .i64 0) := ((bcell hv2).1 _ 0 (by simp)).trans (by simp); have zf0 : u2.frozen? ⟨u1.heap.size, 0, none⟩ = false := ((bcell hv2).2 _ 0 (by simp)).trans (by simp); have zc1 : u2.cell? ⟨u1.heap.size, 1, none⟩ = some (.int .i64 0) := ((bcell hv2).1 _ 1 (by simp)).trans (by simp); have zf1 : u2.frozen? ⟨u1.heap.size, 1, none⟩ = false := ((bcell hv2).2 _ 1 (by simp)).trans (by simp); have zc2 : u2.cell? ⟨u1.heap.size, 2, none⟩ = some (.int .i64 0) := ((bcell hv2).1 _ 2 (by simp)).trans (by simp); have zf2 : u2.frozen? ⟨u1.heap.size, 2, none⟩ = false := ((bcell hv2).2 _ 2 (by simp)).trans (by simp); have zc3 : u2.cell? ⟨u1.heap.size, 3, none⟩ = some (.int .i64 0) := ((bcell hv2).1 _ 3 (by simp)).trans (by simp); have zf3 : u2.frozen? ⟨u1.heap.size, 3, none⟩ = false := ((bcell hv2).2 _ 3 (by simp)).trans (by simp)))) | (go_at_call 35; refine (common_some x0 y0 x1 y1 a0 b0 a1 b1 _ nx1 nx2 nx3 nx4 N5.out N6.out).mono ?_; rw [m1.out, m2.out, m3.out, m4.out]; rintro e u3 ⟨rfl, hv3⟩; (first | (have P3 : Below Wm.heap.size Wm u3 := P2.trans (hv3.mono P2.size); (try (replace zf0 := frozen_kept zc0 zf0 hv3; replace zc0 := cell_kept zc0 hv3; replace zf1 := frozen_kept zc1 zf1 hv3; replace zc1 := cell_kept zc1 hv3; replace zf2 := frozen_kept zc2 zf2 hv3; replace zc2 := cell_kept zc2 hv3; replace zf3 := frozen_kept zc3 zf3 hv3; replace zc3 := cell_kept zc3 hv3))) | (have P3 : Below Wm.heap.size Wm u3 := (P2.alloc P2.size (.cells #[.int .i64 0, .int .i64 0, .int .i64 0, .int .i64 0] 32)).trans (hv3.mono (P2.alloc P2.size (.cells #[.int .i64 0, .int .i64 0, .int .i64 0, .int .i64 0] 32)).size); have zc0 : u3.cell? ⟨u2.heap.size, 0, none⟩ = some (.int .i64 0) := ((bcell hv3).1 _ 0 (by simp)).trans (by simp); have zf0 : u3.frozen? ⟨u2.heap.size, 0, none⟩ = false := ((bcell hv3).2 _ 0 (by simp)).trans (by simp); have zc1 : u3.cell? ⟨u2.heap.size, 1, none⟩ = some (.int .i64 0) := ((bcell hv3).1 _ 1 (by simp)).trans (by simp); have zf1 : u3.frozen? ⟨u2.heap.size, 1, none⟩ = false := ((bcell hv3).2 _ 1 (by simp)).trans (by simp); have zc2 : u3.cell? ⟨u2.heap.size, 2, none⟩ = some (.int .i64 0) := ((bcell hv3).1 _ 2 (by simp)).trans (by simp); have zf2 : u3.frozen? ⟨u2.heap.size, 2, none⟩ = false := ((bcell hv3).2 _ 2 (by simp)).trans (by simp); have zc3 : u3.cell? ⟨u2.heap.size, 3, none⟩ = some (.int .i64 0) := ((bcell hv3).1 _ 3 (by simp)).trans (by simp); have zf3 : u3.frozen? ⟨u2.heap.size, 3, none⟩ = false := ((bcell hv3).2 _ 3 (by simp)).trans (by simp)))))
    all_goals
      go_wp2_with fail
      go_meet
      have z3 := P3.size
      have z2 := P2.size
      have z1 := P1.size
      have y1 := hv2.size
      have y2 := hv3.size
      first
        | exact ⟨u3.heap.size, rfl, rfl, P3.size, by simp, P3.alloc P3.size _, by simp, by simp, by simp, by simp⟩
        | exact ⟨Wm.heap.size, rfl, rfl, Nat.le_refl _, lt_set4 (World.block_lt_of_cell? _ _ zc0), ((((P3.setCell (Nat.le_refl _) _).setCell (Nat.le_refl _) _).setCell (Nat.le_refl _) _).setCell (Nat.le_refl _) _), by go_simp, by go_simp, by go_simp, by go_simp⟩
        | exact ⟨u1.heap.size, rfl, rfl, P1.size, lt_set4 (World.block_lt_of_cell? _ _ zc0), ((((P3.setCell P1.size _).setCell P1.size _).setCell P1.size _).setCell P1.size _), by go_simp, by go_simp, by go_simp, by go_simp⟩
        | exact ⟨u2.heap.size, rfl, rfl, P2.size, lt_set4 (World.block_lt_of_cell? _ _ zc0), ((((P3.setCell P2.size _).setCell P2.size _).setCell P2.size _).setCell P2.size _), by go_simp, by go_simp, by go_simp, by go_simp⟩
  case rest =>
    clear TOS P0 P0a
    obtain ⟨bc, rfl, rfl, hbc, hbl, hBm, cc0, cc1, cc2, cc3⟩ := hcut
    have hBx : Below w.heap.size w wc := hBw.trans (hBm.mono hBw.size)
    have mm0' := cell_kept mm0 hBm
    have mm1' := cell_kept mm1 hBm
    have mm2' := cell_kept mm2 hBm
    have mm3' := cell_kept mm3 hBm
    have mm4' := cell_kept mm4 hBm
    have mm5' := cell_kept mm5 hBm
    have e0' := cell_kept e0 hBm
    have e1' := cell_kept e1 hBm
    have e2' := cell_kept e2 hBm
    have e3' := cell_kept e3 hBm
    have e4' := cell_kept e4 hBm
    have e5' := cell_kept e5 hBm
    have HR4c := Lib.hid (HR4.out.below hBm)
    have HRc := Lib.hid (hr.out.below hBx)
    clear mm0 mm1 mm2 mm3 mm4 mm5 e0 e1 e2 e3 e4 e5 e6 e7 e8 e9 hBw hBm
    go_wp2_with fail
    have P0 : Below wc.heap.size wc wc.drew := (Below.refl _ _).drew
    have toS : ∀ W' : World, Below wc.heap.size wc W' → (W'.cell? ⟨w4.heap.size, 0, none⟩ = some (.int .i64 c0) ∧ W'.cell? ⟨w4.heap.size, 1, none⟩ = some (.int .i64 d0) ∧ W'.cell? ⟨w4.heap.size, 2, none⟩ = some (.int .i64 c1) ∧ W'.cell? ⟨w4.heap.size, 3, none⟩ = some (.int .i64 d1) ∧ W'.cell? ⟨w4.heap.size, 4, none⟩ = some (.int .i64 s) ∧ W'.cell? ⟨w4.heap.size, 5, none⟩ = some (.slice A4 zm.length c4) ∧ W'.cell? ⟨bc, 0, none⟩ = some (.int .i64 c0) ∧ W'.cell? ⟨bc, 1, none⟩ = some (.int .i64 d0) ∧ W'.cell? ⟨bc, 2, none⟩ = some (.int .i64 c1) ∧ W'.cell? ⟨bc, 3, none⟩ = some (.int .i64 d1) ∧ W'.cell? ⟨w.heap.size, 0, none⟩ = some (.int .i64 x0) ∧ W'.cell? ⟨w.heap.size, 1, none⟩ = some (.int .i64 y0) ∧ W'.cell? ⟨w.heap.size, 2, none⟩ = some (.int .i64 x1) ∧ W'.cell? ⟨w.heap.size, 3, none⟩ = some (.int .i64 y1) ∧ W'.cell? ⟨w.heap.size, 4, none⟩ = some (.int .i64 s) ∧ W'.cell? ⟨w.heap.size, 5, none⟩ = some (.slice A zs.length c)) := fun W' h => ⟨cell_kept mm0' h, cell_kept mm1' h, cell_kept mm2' h, cell_kept mm3' h, cell_kept mm4' h, cell_kept mm5' h, cell_kept cc0 h, cell_kept cc1 h, cell_kept cc2 h, cell_kept cc3 h, cell_kept e0' h, cell_kept e1' h, cell_kept e2' h, cell_kept e3' h, cell_kept e4' h, cell_kept e5' h⟩
    have TOS := Lib.hid toS
    clear toS
    go_region_held3 (fun w' => w'.cell? ⟨w4.heap.size, 0, none⟩ = some (.int .i64 c0) ∧ w'.cell? ⟨w4.heap.size, 1, none⟩ = some (.int .i64 d0) ∧ w'.cell? ⟨w4.heap.size, 2, none⟩ = some (.int .i64 c1) ∧ w'.cell? ⟨w4.heap.size, 3, none⟩ = some (.int .i64 d1) ∧ w'.cell? ⟨w4.heap.size, 4, none⟩ = some (.int .i64 s) ∧ w'.cell? ⟨w4.heap.size, 5, none⟩ = some (.slice A4 zm.length c4) ∧ w'.cell? ⟨bc, 0, none⟩ = some (.int .i64 c0) ∧ w'.cell? ⟨bc, 1, none⟩ = some (.int .i64 d0) ∧ w'.cell? ⟨bc, 2, none⟩ = some (.int .i64 c1) ∧ w'.cell? ⟨bc, 3, none⟩ = some (.int .i64 d1) ∧ w'.cell? ⟨w.heap.size, 0, none⟩ = some (.int .i64 x0) ∧ w'.cell? ⟨w.heap.size, 1, none⟩ = some (.int .i64 y0) ∧ w'.cell? ⟨w.heap.size, 2, none⟩ = some (.int .i64 x1) ∧ w'.cell? ⟨w.heap.size, 3, none⟩ = some (.int .i64 y1) ∧ w'.cell? ⟨w.heap.size, 4, none⟩ = some (.int .i64 s) ∧ w'.cell? ⟨w.heap.size, 5, none⟩ = some (.slice A zs.length c))
      ((refine TOS.out _ ?_; first | with_reducible exact P5 | with_reducible exact P4 | with_reducible exact P3 | with_reducible exact P2 | with_reducible exact P1 | with_reducible exact P0))
      (first | (go_at_call 21; refine (box_any c0 d0 c1 d1 _).mono ?_; rintro e v1 ⟨rfl, hq1⟩; have P1 : Below wc.heap.size wc v1 := P0.trans (hq1.mono P0.size)) | (go_at_call 16; refine (fitsK_any c0 d0 c1 d1 s A4 c4 zm true (by simp [HFm.out]) _).mono ?_; rintro e v2 ⟨rfl, hq2⟩; have P2 : Below wc.heap.size wc v2 := P1.trans (hq2.mono P1.size)) | (go_at_call 37; refine (insd_any c0 d0 c1 d1 x y true (by simp [hJ.out]) _).mono ?_; rintro e v3 ⟨rfl, hq3⟩; have P3 : Below wc.heap.size wc v3 := P2.trans (hq3.mono P2.size)) | (go_at_call 23; have _t := tok2; refine (implAt_in c0 d0 c1 d1 s x y A4 c4 j zm _ ?_ HYm hlm HN4 hJ HJ r1 r2 r3 r4 t1 t2 Hj).mono ?_; exact HR4c.out.below P3; rintro e v4 ⟨rfl, hq4⟩; clear tok2; have P4 : Below wc.heap.size wc v4 := P3.trans (hq4.mono P3.size)) | (go_at_call 23; refine (implAt_in x0 y0 x1 y1 s x y A c (k + j) zs _ ?_ hy hl hn hI HKJ s1 s2 s3 s4 z1 z2 Hkj).mono ?_; exact HRc.out.below P4; rintro e v5 ⟨rfl, hq5⟩; rw [← HNUM.out.1, ← HNUM.out.2.1, ← HNUM.out.2.2.1, ← HNUM.out.2.2.2]; have P5 : Below wc.heap.size wc v5 := P4.trans (hq5.mono P4.size)))
    go_wp2
    go_ret
    exact ⟨by simp, hBx.trans (P5.mono hBx.size)⟩

theorem walk_sub (x0 y0 x1 y1 s : Int) (A : Option Addr) (c : Nat) (zs : List Int) (a0 b0 a1 b1 x y : Int) (w : World) (hr : Hid (Reads w A zs)) (hy : Hid (Bytes zs)) (hl : Small zs) (hn : Hid (A = none → c = 0)) :
    Calls Try.prog 11 #[.agg #[.int .i64 x0, .int .i64 y0, .int .i64 x1, .int .i64 y1, .int .i64 s, .slice A zs.length c], .agg #[.int .i64 a0, .int .i64 b0, .int .i64 a1, .int .i64 b1], .int .i64 x, .int .i64 y] w fun e w' => e = .returned (.bool true) ∧ Below w.heap.size w w' := by
  by_cases hF : Fits x0 y0 x1 y1 s 8 zs.length
  · by_cases hN : Near4 a0 b0 a1 b1
    · by_cases hE : min x1 a1 ≤ max x0 a0 ∨ min y1 b1 ≤ max y0 b0
      · exact sub_none x0 y0 x1 y1 s A c zs a0 b0 a1 b1 x y w hr hy hl hn hF hN hE
      · by_cases hJ : Insd (max x0 a0) (max y0 b0) (min x1 a1) (min y1 b1) x y
        · exact sub_some_in x0 y0 x1 y1 s A c zs a0 b0 a1 b1 x y w hr hy hl hn hF hN _ _ _ _ rfl rfl rfl rfl (by omega) (by omega) hJ
        · exact sub_some_out x0 y0 x1 y1 s A c zs a0 b0 a1 b1 x y w hr hy hl hn hF hN _ _ _ _ rfl rfl rfl rfl (by omega) (by omega) hJ
    · exact sub_far x0 y0 x1 y1 s A c zs a0 b0 a1 b1 x y w hr hy hl hn hF hN
  · exact sub_unfit x0 y0 x1 y1 s A c zs a0 b0 a1 b1 x y w hr hy hl hn hF

end Go.Proofs.Ythpgfmgjfadjhaa
