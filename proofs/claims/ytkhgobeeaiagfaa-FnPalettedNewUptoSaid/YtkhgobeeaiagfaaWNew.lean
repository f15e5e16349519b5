/- The walk of the law FnPalettedNew. -/
import Derived.Test.YtkhgobeeaiagfaaNewQ
namespace Go.Proofs.Ytkhgobeeaiagfaa
open Go.RowKit
set_option linter.unusedVariables false
set_option linter.unusedSimpArgs false


set_option maxRecDepth 100000 in
set_option maxHeartbeats 2000000 in
theorem new_unfair (x0 y0 x1 y1 : Int) (B : Option Addr) (k : Nat) (ps : List (Int × Int × Int × Int)) (w : World) (pr : Hid (PReads w B ps)) (pl : (ps.length : Int) ≤ 2097152) (hF : Hid (¬ Fair x0 y0 x1 y1)) :
    Calls Try.prog 10 #[.agg #[.int .i64 x0, .int .i64 y0, .int .i64 x1, .int .i64 y1], .slice B ps.length k] w fun e w' => e = .returned (.bool true) ∧ Below w.heap.size w w' := by
  have hB : Below w.heap.size w (w.alloc (.cells #[.int .i64 x0, .int .i64 y0, .int .i64 x1, .int .i64 y1] 23)) := (Below.refl _ _).alloc (Nat.le_refl _) _
  have R0 : (w.alloc (.cells #[.int .i64 x0, .int .i64 y0, .int .i64 x1, .int .i64 y1] 23)).cell? ⟨w.heap.size, 0, none⟩ = some (.int .i64 x0) := by first | (simp; done) | go_simp
  have R1 : (w.alloc (.cells #[.int .i64 x0, .int .i64 y0, .int .i64 x1, .int .i64 y1] 23)).cell? ⟨w.heap.size, 1, none⟩ = some (.int .i64 y0) := by first | (simp; done) | go_simp
  have R2 : (w.alloc (.cells #[.int .i64 x0, .int .i64 y0, .int .i64 x1, .int .i64 y1] 23)).cell? ⟨w.heap.size, 2, none⟩ = some (.int .i64 x1) := by first | (simp; done) | go_simp
  have R3 : (w.alloc (.cells #[.int .i64 x0, .int .i64 y0, .int .i64 x1, .int .i64 y1] 23)).cell? ⟨w.heap.size, 3, none⟩ = some (.int .i64 y1) := by first | (simp; done) | go_simp
  have HP := Lib.hid (pr.out.below hB)
  go_enter Try.func10, Try.ntmps10
  go_wp2_with fail
  generalize w.alloc (.cells #[.int .i64 x0, .int .i64 y0, .int .i64 x1, .int .i64 y1] 23) = W0 at *
  refine (box_any x0 y0 x1 y1 _).mono ?_
  rintro e w1 ⟨rfl, hb1⟩
  replace R0 := cell_kept R0 hb1
  replace R1 := cell_kept R1 hb1
  replace R2 := cell_kept R2 hb1
  replace R3 := cell_kept R3 hb1
  replace HP := Lib.hid (HP.out.below hb1)
  replace hB := hB.trans (hb1.mono hB.size)
  clear hb1
  go_wp2_with fail
  refine (fair_any x0 y0 x1 y1 false (by simp [hF.out]) _).mono ?_
  rintro e w2 ⟨rfl, hb2⟩
  replace R0 := cell_kept R0 hb2
  replace R1 := cell_kept R1 hb2
  replace R2 := cell_kept R2 hb2
  replace R3 := cell_kept R3 hb2
  replace HP := Lib.hid (HP.out.below hb2)
  replace hB := hB.trans (hb2.mono hB.size)
  clear hb2
  go_wp2
  go_ret
  exact ⟨by simp, hB⟩

set_option maxRecDepth 100000 in
set_option maxHeartbeats 2000000 in
theorem new_fair (x0 y0 x1 y1 : Int) (B : Option Addr) (k : Nat) (ps : List (Int × Int × Int × Int)) (w : World) (pr : Hid (PReads w B ps)) (pl : (ps.length : Int) ≤ 2097152) (hF : Hid (Fair x0 y0 x1 y1)) :
    Calls Try.prog 10 #[.agg #[.int .i64 x0, .int .i64 y0, .int .i64 x1, .int .i64 y1], .slice B ps.length k] w fun e w' => e = .returned (.bool true) ∧ Below w.heap.size w w' := by
  obtain ⟨_, g1, g2, g3, g4, g5⟩ := id hF.out
  have p0 : 0 ≤ (x1 - x0) * (y1 - y0) := Int.mul_nonneg (by omega) (by omega)
  obtain ⟨n, hn, hn2⟩ : ∃ n : Nat, (x1 - x0) * (y1 - y0) = n ∧ n ≤ 524288 := ⟨((x1 - x0) * (y1 - y0)).toNat, by omega, by omega⟩
  have HN := Lib.hid hn
  have HFN : Hid (Fits x0 y0 x1 y1 (x1 - x0) 1 (zeros n).length) := by unfold Hid; rw [zeros_length]; exact fits_new hF.out hn
  have a0 : 0 ≤ x1 - x0 := by omega
  have b0 : 0 ≤ y1 - y0 := by omega
  clear hn
  have hB : Below w.heap.size w (w.alloc (.cells #[.int .i64 x0, .int .i64 y0, .int .i64 x1, .int .i64 y1] 23)) := (Below.refl _ _).alloc (Nat.le_refl _) _
  have R0 : (w.alloc (.cells #[.int .i64 x0, .int .i64 y0, .int .i64 x1, .int .i64 y1] 23)).cell? ⟨w.heap.size, 0, none⟩ = some (.int .i64 x0) := by first | (simp; done) | go_simp
  have R1 : (w.alloc (.cells #[.int .i64 x0, .int .i64 y0, .int .i64 x1, .int .i64 y1] 23)).cell? ⟨w.heap.size, 1, none⟩ = some (.int .i64 y0) := by first | (simp; done) | go_simp
  have R2 : (w.alloc (.cells #[.int .i64 x0, .int .i64 y0, .int .i64 x1, .int .i64 y1] 23)).cell? ⟨w.heap.size, 2, none⟩ = some (.int .i64 x1) := by first | (simp; done) | go_simp
  have R3 : (w.alloc (.cells #[.int .i64 x0, .int .i64 y0, .int .i64 x1, .int .i64 y1] 23)).cell? ⟨w.heap.size, 3, none⟩ = some (.int .i64 y1) := by first | (simp; done) | go_simp
  have HP := Lib.hid (pr.out.below hB)
  go_enter Try.func10, Try.ntmps10
  go_wp2_with fail
  generalize w.alloc (.cells #[.int .i64 x0, .int .i64 y0, .int .i64 x1, .int .i64 y1] 23) = W0 at *
  refine (box_any x0 y0 x1 y1 _).mono ?_
  rintro e w1 ⟨rfl, hb1⟩
  replace R0 := cell_kept R0 hb1
  replace R1 := cell_kept R1 hb1
  replace R2 := cell_kept R2 hb1
  replace R3 := cell_kept R3 hb1
  replace HP := Lib.hid (HP.out.below hb1)
  replace hB := hB.trans (hb1.mono hB.size)
  clear hb1
  go_wp2_with fail
  refine (fair_any x0 y0 x1 y1 true (by simp [hF.out]) _).mono ?_
  rintro e w2 ⟨rfl, hb2⟩
  replace R0 := cell_kept R0 hb2
  replace R1 := cell_kept R1 hb2
  replace R2 := cell_kept R2 hb2
  replace R3 := cell_kept R3 hb2
  replace HP := Lib.hid (HP.out.below hb2)
  replace hB := hB.trans (hb2.mono hB.size)
  clear hb2
  go_wp2_with fail
  refine (implNew_any x0 y0 x1 y1 n B k ps _ HP pl a0 g3 b0 g4 p0 g5 HN hn2).mono ?_
  rintro e w3 ⟨G1, h1, G2, h2, rfl, ho1, ho2, hb3⟩
  have HG1 := Lib.hid (Reads.of_own ho1)
  have HG2 := Lib.hid (PReads.of_own ho2)
  clear ho1 ho2
  replace R0 := cell_kept R0 hb3
  replace R1 := cell_kept R1 hb3
  replace R2 := cell_kept R2 hb3
  replace R3 := cell_kept R3 hb3
  replace HP := Lib.hid (HP.out.below hb3)
  replace hB := hB.trans (hb3.mono hB.size)
  clear hb3
  obtain ⟨zz, HZZ⟩ : ∃ z, Hid (zeros n = z) := ⟨_, rfl⟩
  rw [HZZ.out] at HFN HG1 ⊢
  have aw : Below w3.heap.size w3 (w3.alloc (.cells #[.int .i64 x0, .int .i64 y0, .int .i64 x1, .int .i64 y1, .int .i64 (x1 - x0), .slice G1 zz.length h1, .slice G2 ps.length h2] 27)) := (Below.refl _ _).alloc (Nat.le_refl _) _
  replace R0 := cell_kept R0 aw
  replace R1 := cell_kept R1 aw
  replace R2 := cell_kept R2 aw
  replace R3 := cell_kept R3 aw
  replace HP := Lib.hid (HP.out.below aw)
  replace HG1 := Lib.hid (HG1.out.below aw)
  replace HG2 := Lib.hid (HG2.out.below aw)
  replace hB := hB.trans (aw.mono hB.size)
  have M0 : (w3.alloc (.cells #[.int .i64 x0, .int .i64 y0, .int .i64 x1, .int .i64 y1, .int .i64 (x1 - x0), .slice G1 zz.length h1, .slice G2 ps.length h2] 27)).cell? ⟨w3.heap.size, 0, none⟩ = some (.int .i64 x0) := by simp
  have M1 : (w3.alloc (.cells #[.int .i64 x0, .int .i64 y0, .int .i64 x1, .int .i64 y1, .int .i64 (x1 - x0), .slice G1 zz.length h1, .slice G2 ps.length h2] 27)).cell? ⟨w3.heap.size, 1, none⟩ = some (.int .i64 y0) := by simp
  have M2 : (w3.alloc (.cells #[.int .i64 x0, .int .i64 y0, .int .i64 x1, .int .i64 y1, .int .i64 (x1 - x0), .slice G1 zz.length h1, .slice G2 ps.length h2] 27)).cell? ⟨w3.heap.size, 2, none⟩ = some (.int .i64 x1) := by simp
  have M3 : (w3.alloc (.cells #[.int .i64 x0, .int .i64 y0, .int .i64 x1, .int .i64 y1, .int .i64 (x1 - x0), .slice G1 zz.length h1, .slice G2 ps.length h2] 27)).cell? ⟨w3.heap.size, 3, none⟩ = some (.int .i64 y1) := by simp
  have M4 : (w3.alloc (.cells #[.int .i64 x0, .int .i64 y0, .int .i64 x1, .int .i64 y1, .int .i64 (x1 - x0), .slice G1 zz.length h1, .slice G2 ps.length h2] 27)).cell? ⟨w3.heap.size, 4, none⟩ = some (.int .i64 (x1 - x0)) := by simp
  have M5 : (w3.alloc (.cells #[.int .i64 x0, .int .i64 y0, .int .i64 x1, .int .i64 y1, .int .i64 (x1 - x0), .slice G1 zz.length h1, .slice G2 ps.length h2] 27)).cell? ⟨w3.heap.size, 5, none⟩ = some (.slice G1 zz.length h1) := by simp
  have M6 : (w3.alloc (.cells #[.int .i64 x0, .int .i64 y0, .int .i64 x1, .int .i64 y1, .int .i64 (x1 - x0), .slice G1 zz.length h1, .slice G2 ps.length h2] 27)).cell? ⟨w3.heap.size, 6, none⟩ = some (.slice G2 ps.length h2) := by simp
  have hltWA : w3.heap.size < (w3.alloc (.cells #[.int .i64 x0, .int .i64 y0, .int .i64 x1, .int .i64 y1, .int .i64 (x1 - x0), .slice G1 zz.length h1, .slice G2 ps.length h2] 27)).heap.size := by simp
  clear aw
  go_wp2_with fail
  generalize w3.alloc (.cells #[.int .i64 x0, .int .i64 y0, .int .i64 x1, .int .i64 y1, .int .i64 (x1 - x0), .slice G1 zz.length h1, .slice G2 ps.length h2] 27) = WA at *
  generalize w3.heap.size = ba at *
  refine (colors_any G2 B h2 k ps _ HG2.out HP.out pl).mono ?_
  rintro e w4 ⟨rfl, hb4⟩
  replace R0 := cell_kept R0 hb4
  replace R1 := cell_kept R1 hb4
  replace R2 := cell_kept R2 hb4
  replace R3 := cell_kept R3 hb4
  replace M0 := cell_kept M0 hb4
  replace M1 := cell_kept M1 hb4
  replace M2 := cell_kept M2 hb4
  replace M3 := cell_kept M3 hb4
  replace M4 := cell_kept M4 hb4
  replace M5 := cell_kept M5 hb4
  replace M6 := cell_kept M6 hb4
  replace HP := Lib.hid (HP.out.below hb4)
  replace HG1 := Lib.hid (HG1.out.below hb4)
  replace HG2 := Lib.hid (HG2.out.below hb4)
  replace hB := hB.trans (hb4.mono hB.size)
  clear hb4
  go_wp2_with fail
  refine (fitsK_any x0 y0 x1 y1 (x1 - x0) G1 h1 zz G2 h2 ps true (by simp [HFN.out]) _).mono ?_
  rintro e w5 ⟨rfl, hb5⟩
  replace R0 := cell_kept R0 hb5
  replace R1 := cell_kept R1 hb5
  replace R2 := cell_kept R2 hb5
  replace R3 := cell_kept R3 hb5
  replace M0 := cell_kept M0 hb5
  replace M1 := cell_kept M1 hb5
  replace M2 := cell_kept M2 hb5
  replace M3 := cell_kept M3 hb5
  replace M4 := cell_kept M4 hb5
  replace M5 := cell_kept M5 hb5
  replace M6 := cell_kept M6 hb5
  replace HP := Lib.hid (HP.out.below hb5)
  replace HG1 := Lib.hid (HG1.out.below hb5)
  replace HG2 := Lib.hid (HG2.out.below hb5)
  replace hB := hB.trans (hb5.mono hB.size)
  clear hb5
  go_wp2
  go_ret
  exact ⟨by simp, hB⟩

theorem walk_new (x0 y0 x1 y1 : Int) (B : Option Addr) (k : Nat) (ps : List (Int × Int × Int × Int)) (w : World) (pr : Hid (PReads w B ps)) (pl : (ps.length : Int) ≤ 2097152) :
    Calls Try.prog 10 #[.agg #[.int .i64 x0, .int .i64 y0, .int .i64 x1, .int .i64 y1], .slice B ps.length k] w fun e w' => e = .returned (.bool true) ∧ Below w.heap.size w w' := by
  by_cases hF : Fair x0 y0 x1 y1
  · exact new_fair x0 y0 x1 y1 B k ps w pr pl hF
  · exact new_unfair x0 y0 x1 y1 B k ps w pr pl hF

end Go.Proofs.Ytkhgobeeaiagfaa
