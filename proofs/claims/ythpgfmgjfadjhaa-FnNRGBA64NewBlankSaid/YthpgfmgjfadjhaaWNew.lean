/- NewNRGBA64 and impl.NewNRGBA64; the walk of the law FnNRGBA64New. -/
import Derived.Test.YthpgfmgjfadjhaaNew
namespace Go.Proofs.Ythpgfmgjfadjhaa
open Go.RowKit
set_option linter.unusedVariables false

theorem made_zero (n : Nat) : (madeCells #[.int .u8 0] n).toList = (List.replicate n (0 : Int)).map (Value.int .u8) := by
  apply List.ext_getElem
  · simp [madeCells]
  · intro i h1 h2
    simp [madeCells, Nat.mod_one]
theorem made_own (W : World) (base n : Nat) (hb : base ≤ W.heap.size) (hn : n ≤ 524288) : (W.alloc (.cells (madeCells #[.int .u8 0] n) 5)).ownsRow base 5 1 (.slice (some ⟨W.heap.size, 0, none⟩) n n) n ((List.replicate n (0 : Int)).map (Value.int .u8)) := by
  refine ⟨by simp, Or.inr ⟨W.heap.size, n, _, rfl, hb, heap_alloc_new _ _, Nat.le_refl _, by unfold maxLen; omega, by simp [madeCells], ?_⟩⟩
  rw [made_zero, List.take_of_length_le (by simp)]
def zeros (n : Nat) : List Int := List.replicate n 0
theorem zeros_length (n : Nat) : (zeros n).length = n := by simp [zeros]
theorem zeros_small {n : Nat} (h : n ≤ 524288) : Small (zeros n) := by unfold Small; rw [zeros_length]; omega
theorem zeros_bytes (n : Nat) : Bytes (zeros n) := by intro z hz; simp [zeros] at hz; omega

theorem newK_any (x0 y0 x1 y1 : Int) (n : Nat) (w : World) (a0 : 0 ≤ x1 - x0) (a1 : x1 - x0 ≤ 65536) (b0 : 0 ≤ y1 - y0) (b1 : y1 - y0 ≤ 65536) (p0 : 0 ≤ (x1 - x0) * (y1 - y0)) (p1 : (x1 - x0) * (y1 - y0) ≤ 65536) (HN : Hid (8 * (x1 - x0) * (y1 - y0) = n)) (hn : n ≤ 524288) :
    Calls Try.prog 53 #[.agg #[.int .i64 x0, .int .i64 y0, .int .i64 x1, .int .i64 y1]] w (ImgBack (zeros n) (8 * (x1 - x0)) x0 y0 x1 y1 w) := by
  have hmk := run_make_row' (P := Try.prog) 24 5 (.int .u8 0) 1 Try.underlying24 info5 rfl .i64 .i64 n (by omega) (by omega)
  have S0 := keepD4 (start4 w 86 (.int .i64 x0) (.int .i64 y0) (.int .i64 x1) (.int .i64 y1))
  have hw1 : IntKind.i64.wrap (8 * (x1 - x0)) = 8 * (x1 - x0) := IntWalk.i64_in _ (by omega)
  have HW := Lib.hid hw1
  clear hw1
  go_enter Try.func53, Try.ntmps53
  go_wp2
  go_region_held3 (fun w' => w.heap.size < w'.heap.size ∧ Below w.heap.size w w' ∧ w'.cell? ⟨w.heap.size, 0, none⟩ = some (.int .i64 x0) ∧ w'.cell? ⟨w.heap.size, 1, none⟩ = some (.int .i64 y0) ∧ w'.cell? ⟨w.heap.size, 2, none⟩ = some (.int .i64 x1) ∧ w'.cell? ⟨w.heap.size, 3, none⟩ = some (.int .i64 y1))
    (first | with_reducible exact S1 | with_reducible exact S0 | with_reducible exact S2 | with_reducible exact S3 | with_reducible exact S4 | with_reducible exact keepA4 S4 | with_reducible exact keepA4 S3 | with_reducible exact keepA4 S2)
    (first | (go_at_call 65; refine (pbl_any x0 y0 x1 y1 _ _ a0 a1 b0 b1 p0 p1).mono ?_; rintro e w1 ⟨rfl, hb1⟩; rw [HN.out]; have S1 := keep4 hb1 S0; have S2 := keepA4 (o := (.cells (madeCells #[.int .u8 0] n) 5)) S1) | (go_at_call 63; refine (dx_any x0 y0 x1 y1 _ (by omega) (by omega)).mono ?_; rintro e w2 ⟨rfl, hb2⟩; (first | have S3 := keep4 hb2 S2 | (have S3 := keep4 hb2 S1; have S4 := keepA4 (o := (.cells (madeCells #[.int .u8 0] n) 5)) S3))))
  · rename_i hS
    go_wp2
    go_ret
    refine ⟨w2.heap.size, some ⟨w1.heap.size, 0, none⟩, n, by simp, by have := S3.1; omega, ?_, ?_, hS.2.1⟩
    · rw [zeros_length, HW.out]
      exact heap_alloc_new _ _
    · rw [zeros_length]
      exact (ownsRow_below (made_own w1 w.heap.size n (by have := S1.1; omega) hn) hb2).alloc _
  · rename_i hS
    go_wp2
    go_ret
    refine ⟨w2.heap.size + 1, some ⟨w2.heap.size, 0, none⟩, n, by simp, by have := S3.1; omega, ?_, ?_, hS.2.1⟩
    · rw [zeros_length, HW.out]
      exact heap_alloc2_new _ _ _
    · rw [zeros_length]
      exact (made_own w2 w.heap.size n (by have := S3.1; omega) hn).alloc _

/-- What a call hands back that makes an image as plain data: its bytes are all zero. -/
theorem implNew_any (x0 y0 x1 y1 : Int) (n : Nat) (w : World) (a0 : 0 ≤ x1 - x0) (a1 : x1 - x0 ≤ 65536) (b0 : 0 ≤ y1 - y0) (b1 : y1 - y0 ≤ 65536) (p0 : 0 ≤ (x1 - x0) * (y1 - y0)) (p1 : (x1 - x0) * (y1 - y0) ≤ 65536) (HN : Hid (8 * (x1 - x0) * (y1 - y0) = n)) (hn : n ≤ 524288) :
    Calls Try.prog 29 #[.agg #[.int .i64 x0, .int .i64 y0, .int .i64 x1, .int .i64 y1]] w (DeepBack (zeros n) (8 * (x1 - x0)) x0 y0 x1 y1 w) := by
  have ZS := Lib.hid (zeros_small hn)
  go_enter Try.func29, Try.ntmps29
  go_wp2_with fail
  refine (rectangle_any x0 y0 x1 y1 _).mono ?_
  rintro e w1 ⟨rfl, hb1⟩
  have hz1 : w.heap.size + 1 < w1.heap.size := by have := hb1.size; simp at this; omega
  have hB1 : Below w.heap.size w w1 := (((Below.refl _ _).alloc (Nat.le_refl _) _).alloc (by simp) _).trans (hb1.mono (by simp; omega))
  obtain ⟨hc1, hf1⟩ := bcell hb1
  have r0 : w1.cell? ⟨w.heap.size + 1, 0, none⟩ = some (.int .i64 0) := (hc1 _ 0 (by simp)).trans (by simp)
  have f0 : w1.frozen? ⟨w.heap.size + 1, 0, none⟩ = false := (hf1 _ 0 (by simp)).trans (by simp)
  have r1 : w1.cell? ⟨w.heap.size + 1, 1, none⟩ = some (.int .i64 0) := (hc1 _ 1 (by simp)).trans (by simp)
  have f1 : w1.frozen? ⟨w.heap.size + 1, 1, none⟩ = false := (hf1 _ 1 (by simp)).trans (by simp)
  have r2 : w1.cell? ⟨w.heap.size + 1, 2, none⟩ = some (.int .i64 0) := (hc1 _ 2 (by simp)).trans (by simp)
  have f2 : w1.frozen? ⟨w.heap.size + 1, 2, none⟩ = false := (hf1 _ 2 (by simp)).trans (by simp)
  have r3 : w1.cell? ⟨w.heap.size + 1, 3, none⟩ = some (.int .i64 0) := (hc1 _ 3 (by simp)).trans (by simp)
  have f3 : w1.frozen? ⟨w.heap.size + 1, 3, none⟩ = false := (hf1 _ 3 (by simp)).trans (by simp)
  have r4 : w1.cell? ⟨w.heap.size + 1, 4, none⟩ = some (.int .i64 0) := (hc1 _ 4 (by simp)).trans (by simp)
  have f4 : w1.frozen? ⟨w.heap.size + 1, 4, none⟩ = false := (hf1 _ 4 (by simp)).trans (by simp)
  have r5 : w1.cell? ⟨w.heap.size + 1, 5, none⟩ = some (.slice none 0 0) := (hc1 _ 5 (by simp)).trans (by simp)
  have f5 : w1.frozen? ⟨w.heap.size + 1, 5, none⟩ = false := (hf1 _ 5 (by simp)).trans (by simp)
  clear hb1 hc1 hf1
  go_wp2_with fail
  refine (newK_any x0 y0 x1 y1 n _ a0 a1 b0 b1 p0 p1 HN hn).mono ?_
  rintro e w2 ⟨g, A', c', rfl, hgb, hg, hown, hb2⟩
  have HG := Lib.hid hg
  have HO := Lib.hid hown
  clear hg hown
  go_wp2_with fail
  refine (of_any g A' c' (zeros n) _ x0 y0 x1 y1 _ HG.out (Reads.of_own HO.out) ZS.out (own_nil HO.out)).mono ?_
  rintro e w3 ⟨A3, c3, rfl, hown3, hb3⟩
  have hB13 : Below w1.heap.size w1 w3 := hb2.trans (hb3.mono hb2.size)
  have hB3 : Below w.heap.size w w3 := hB1.trans (hB13.mono (by omega))
  have hz3 : w.heap.size + 1 < w2.heap.size := by have := hb2.size; omega
  replace r0 := cell_kept r0 hB13
  replace f0 := (hB13.frozen (p := ⟨w.heap.size + 1, 0, none⟩) hz1).trans f0
  replace r1 := cell_kept r1 hB13
  replace f1 := (hB13.frozen (p := ⟨w.heap.size + 1, 1, none⟩) hz1).trans f1
  replace r2 := cell_kept r2 hB13
  replace f2 := (hB13.frozen (p := ⟨w.heap.size + 1, 2, none⟩) hz1).trans f2
  replace r3 := cell_kept r3 hB13
  replace f3 := (hB13.frozen (p := ⟨w.heap.size + 1, 3, none⟩) hz1).trans f3
  replace r4 := cell_kept r4 hB13
  replace f4 := (hB13.frozen (p := ⟨w.heap.size + 1, 4, none⟩) hz1).trans f4
  replace r5 := cell_kept r5 hB13
  replace f5 := (hB13.frozen (p := ⟨w.heap.size + 1, 5, none⟩) hz1).trans f5
  have HO3 := Lib.hid hown3
  clear hown3 hb2 hb3
  go_wp2
  refine bodyPost_ret (v := .agg #[.int .i64 x0, .int .i64 y0, .int .i64 x1, .int .i64 y1, .int .i64 (8 * (x1 - x0)), .slice A3 (zeros n).length c3]) (by simp [results, Try.results29, go_sem, r0, r1, r2, r3, r4, r5]) rfl ⟨A3, c3, rfl, ?_, ?_⟩
  · refine ownsRow_base (base' := w2.heap.size) ?_ (by omega)
    exact ownsRow_setCell_below (ownsRow_setCell_below (ownsRow_setCell_below (ownsRow_setCell_below (ownsRow_setCell_below (ownsRow_setCell_below HO3.out hz3 _) hz3 _) hz3 _) hz3 _) hz3 _) hz3 _
  · exact (((((hB3.setCell (Nat.le_succ _) _).setCell (Nat.le_succ _) _).setCell (Nat.le_succ _) _).setCell (Nat.le_succ _) _).setCell (Nat.le_succ _) _).setCell (Nat.le_succ _) _

theorem fits_new {x0 y0 x1 y1 : Int} {n : Nat} (h : Fair x0 y0 x1 y1) (hn : 8 * (x1 - x0) * (y1 - y0) = n) : Fits x0 y0 x1 y1 (8 * (x1 - x0)) 8 n := by
  obtain ⟨hN, g1, g2, g3, g4, g5⟩ := h
  refine ⟨⟨hN, g1, g2, g3, g4, g5⟩, ⟨by omega, by omega⟩, ?_⟩
  by_cases hE : Empt x0 y0 x1 y1
  · exact Or.inl hE
  · have hE' : x0 < x1 ∧ y0 < y1 := by unfold Empt at hE; omega
    have e0 : 0 ≤ (y1 - 1 - y0) * (8 * (x1 - x0)) := Int.mul_nonneg (by omega) (by omega)
    have e1 : (y1 - 1 - y0) * (8 * (x1 - x0)) = 8 * (x1 - x0) * (y1 - y0) - 8 * (x1 - x0) := by
      rw [show y1 - 1 - y0 = (y1 - y0) - 1 by omega, Int.sub_mul, Int.one_mul, Int.mul_comm]
    exact Or.inr ⟨e0, by omega⟩

theorem new_unfair (x0 y0 x1 y1 : Int) (w : World) (hF : Hid (¬ Fair x0 y0 x1 y1)) :
    Calls Try.prog 8 #[.agg #[.int .i64 x0, .int .i64 y0, .int .i64 x1, .int .i64 y1]] w fun e w' => e = .returned (.bool true) ∧ Below w.heap.size w w' := by
  go_enter Try.func8, Try.ntmps8
  go_wp2_with fail
  refine (box_any x0 y0 x1 y1 _).mono ?_
  rintro e w1 ⟨rfl, hb1⟩
  obtain ⟨hz1, hB1, c10, c11, c12, c13⟩ := keep4 hb1 (start4 w _ _ _ _ _ )
  clear hb1
  go_wp2_with fail
  refine (fair_any x0 y0 x1 y1 false (by simp [hF.out]) _).mono ?_
  rintro e w2 ⟨rfl, hb2⟩
  obtain ⟨hz2, hB2, c20, c21, c22, c23⟩ := keep4 hb2 ⟨hz1, hB1, c10, c11, c12, c13⟩
  clear hb2 hz1 hB1 c10 c11 c12 c13
  go_wp2
  go_ret
  exact ⟨by simp, hB2⟩

theorem new_fair (x0 y0 x1 y1 : Int) (w : World) (hF : Hid (Fair x0 y0 x1 y1)) :
    Calls Try.prog 8 #[.agg #[.int .i64 x0, .int .i64 y0, .int .i64 x1, .int .i64 y1]] w fun e w' => e = .returned (.bool true) ∧ Below w.heap.size w w' := by
  obtain ⟨_, g1, g2, g3, g4, g5⟩ := hF.out
  have p0 : 0 ≤ (x1 - x0) * (y1 - y0) := Int.mul_nonneg (by omega) (by omega)
  obtain ⟨n, hn, hn2⟩ : ∃ n : Nat, 8 * (x1 - x0) * (y1 - y0) = n ∧ n ≤ 524288 := by
    have e1 : 8 * (x1 - x0) * (y1 - y0) = 8 * ((x1 - x0) * (y1 - y0)) := Int.mul_assoc _ _ _
    generalize 8 * (x1 - x0) * (y1 - y0) = t at *
    exact ⟨t.toNat, by omega, by omega⟩
  have HF : Hid (Fits x0 y0 x1 y1 (8 * (x1 - x0)) 8 (zeros n).length) := by unfold Hid; rw [zeros_length]; exact fits_new hF.out hn
  have HN := Lib.hid hn
  clear hn
  have a0 : 0 ≤ x1 - x0 := by omega
  have b0 : 0 ≤ y1 - y0 := by omega
  have eq1 : (x0 == x0) = true := by simp
  go_enter Try.func8, Try.ntmps8
  go_wp2_with fail
  refine (box_any x0 y0 x1 y1 _).mono ?_
  rintro e w1 ⟨rfl, hb1⟩
  obtain ⟨hz1, hB1, c10, c11, c12, c13⟩ := keep4 hb1 (start4 w _ _ _ _ _ )
  clear hb1
  go_wp2_with fail
  refine (fair_any x0 y0 x1 y1 true (by simp [hF.out]) _).mono ?_
  rintro e w2 ⟨rfl, hb2⟩
  obtain ⟨hz2, hB2, c20, c21, c22, c23⟩ := keep4 hb2 ⟨hz1, hB1, c10, c11, c12, c13⟩
  clear hb2 hz1 hB1 c10 c11 c12 c13
  go_wp2_with fail
  refine (implNew_any x0 y0 x1 y1 n _ a0 g3 b0 g4 p0 g5 HN hn2).mono ?_
  rintro e w3 ⟨A3, c3, rfl, hown3, hb3⟩
  obtain ⟨hz3, hB3, c30, c31, c32, c33⟩ := keep4 hb3 ⟨hz2, hB2, c20, c21, c22, c23⟩
  clear hb3 hz2 hB2 c20 c21 c22 c23
  clear hown3
  go_wp2_with fail
  refine (fitsK_any x0 y0 x1 y1 _ A3 c3 (zeros n) true (by simp [HF.out]) _).mono ?_
  rintro e w4 ⟨rfl, hb4⟩
  go_wp2
  go_ret
  exact ⟨by simp, (hB3.alloc hB3.size _).trans (hb4.mono (by have := hB3.size; simp; omega))⟩

theorem walk_new (x0 y0 x1 y1 : Int) (w : World) : Calls Try.prog 8 #[.agg #[.int .i64 x0, .int .i64 y0, .int .i64 x1, .int .i64 y1]] w fun e w' => e = .returned (.bool true) ∧ Below w.heap.size w w' := by
  by_cases hF : Fair x0 y0 x1 y1
  · exact new_fair x0 y0 x1 y1 w hF
  · exact new_unfair x0 y0 x1 y1 w hF

end Go.Proofs.Ythpgfmgjfadjhaa
