/- The contract of the reference's function Fits. -/
import Derived.Test.YtkhgobeeaiagfaaFair
namespace Go.Proofs.Ytkhgobeeaiagfaa
open Go.RowKit
set_option linter.unusedVariables false

theorem fits_unfair (x0 y0 x1 y1 s long : Int) (w : World) (hF : Hid (¬ Fair x0 y0 x1 y1)) :
    Calls Try.prog 41 #[.agg #[.int .i64 x0, .int .i64 y0, .int .i64 x1, .int .i64 y1], .int .i64 s, .int .i64 1, .int .i64 long] w fun e w' => e = .returned (.bool false) ∧ Below w.heap.size w w' := by
  go_enter Try.func41, Try.ntmps41
  go_wp2_with fail
  refine (fair_any x0 y0 x1 y1 false (by simp [hF.out]) _).mono ?_
  rintro e w1 ⟨rfl, hb1⟩
  obtain ⟨hc, hf⟩ := bcell hb1
  have hz : w.heap.size < w1.heap.size := by have := hb1.size; simp at this; omega
  have hB : Below w.heap.size w w1 := ((Below.refl _ _).alloc (Nat.le_refl _) _).trans (hb1.mono (by simp))
  go_wp2
  go_ret
  exact ⟨by first | (simp; done) | (simp; omega), hB⟩
theorem fits_lo (x0 y0 x1 y1 s long : Int) (w : World) (hF : Hid (Fair x0 y0 x1 y1)) (h : s < -1099511627776) :
    Calls Try.prog 41 #[.agg #[.int .i64 x0, .int .i64 y0, .int .i64 x1, .int .i64 y1], .int .i64 s, .int .i64 1, .int .i64 long] w fun e w' => e = .returned (.bool false) ∧ Below w.heap.size w w' := by
  go_enter Try.func41, Try.ntmps41
  go_wp2_with fail
  refine (fair_any x0 y0 x1 y1 true (by simp [hF.out]) _).mono ?_
  rintro e w1 ⟨rfl, hb1⟩
  obtain ⟨hc, hf⟩ := bcell hb1
  have hz : w.heap.size < w1.heap.size := by have := hb1.size; simp at this; omega
  have hB : Below w.heap.size w w1 := ((Below.refl _ _).alloc (Nat.le_refl _) _).trans (hb1.mono (by simp))
  go_wp2_with fail
  refine (near_any s false (by simp only [Near, Bool.false_eq_true, false_iff]; omega) _).mono ?_
  rintro e w1' ⟨rfl, rfl⟩
  go_wp2
  go_ret
  exact ⟨by first | (simp; done) | (simp; omega), hB⟩
theorem fits_hi (x0 y0 x1 y1 s long : Int) (w : World) (hF : Hid (Fair x0 y0 x1 y1)) (h : 1099511627776 < s) :
    Calls Try.prog 41 #[.agg #[.int .i64 x0, .int .i64 y0, .int .i64 x1, .int .i64 y1], .int .i64 s, .int .i64 1, .int .i64 long] w fun e w' => e = .returned (.bool false) ∧ Below w.heap.size w w' := by
  go_enter Try.func41, Try.ntmps41
  go_wp2_with fail
  refine (fair_any x0 y0 x1 y1 true (by simp [hF.out]) _).mono ?_
  rintro e w1 ⟨rfl, hb1⟩
  obtain ⟨hc, hf⟩ := bcell hb1
  have hz : w.heap.size < w1.heap.size := by have := hb1.size; simp at this; omega
  have hB : Below w.heap.size w w1 := ((Below.refl _ _).alloc (Nat.le_refl _) _).trans (hb1.mono (by simp))
  go_wp2_with fail
  refine (near_any s false (by simp only [Near, Bool.false_eq_true, false_iff]; omega) _).mono ?_
  rintro e w1' ⟨rfl, rfl⟩
  go_wp2
  go_ret
  exact ⟨by first | (simp; done) | (simp; omega), hB⟩
theorem fits_empty (x0 y0 x1 y1 s long : Int) (w : World) (hF : Hid (Fair x0 y0 x1 y1)) (s0 : -1099511627776 ≤ s) (s1 : s ≤ 1099511627776) (hE : Hid (Empt x0 y0 x1 y1)) :
    Calls Try.prog 41 #[.agg #[.int .i64 x0, .int .i64 y0, .int .i64 x1, .int .i64 y1], .int .i64 s, .int .i64 1, .int .i64 long] w fun e w' => e = .returned (.bool true) ∧ Below w.heap.size w w' := by
  go_enter Try.func41, Try.ntmps41
  go_wp2_with fail
  refine (fair_any x0 y0 x1 y1 true (by simp [hF.out]) _).mono ?_
  rintro e w1 ⟨rfl, hb1⟩
  obtain ⟨hc, hf⟩ := bcell hb1
  have hz : w.heap.size < w1.heap.size := by have := hb1.size; simp at this; omega
  have hB : Below w.heap.size w w1 := ((Below.refl _ _).alloc (Nat.le_refl _) _).trans (hb1.mono (by simp))
  go_wp2_with fail
  refine (near_any s true (by simp [Near, s0, s1]) _).mono ?_
  rintro e w1' ⟨rfl, rfl⟩
  go_wp2_with fail
  refine (empt_any x0 y0 x1 y1 true (by simp [hE.out]) _).mono ?_
  rintro e w2 ⟨rfl, hb2⟩
  obtain ⟨hc2, hf2⟩ := bcell hb2
  have hz2 : w.heap.size < w2.heap.size := by have := hb2.size; omega
  have hB2 : Below w.heap.size w w2 := hB.trans (hb2.mono (by omega))
  go_wp2
  go_ret
  exact ⟨by first | (simp; done) | (simp; omega), hB2⟩
theorem fits_down (x0 y0 x1 y1 s long : Int) (w : World) (hF : Hid (Fair x0 y0 x1 y1)) (s0 : -1099511627776 ≤ s) (s1 : s ≤ 1099511627776) (hE : Hid (¬ Empt x0 y0 x1 y1)) (n1 : -1099511627776 ≤ x0) (n3 : -1099511627776 ≤ y0) (n6 : x1 ≤ 1099511627776) (n8 : y1 ≤ 1099511627776) (h0 : x0 < x1) (h1 : y0 < y1) (h2 : x1 - x0 ≤ 65536) (h3 : y1 - y0 ≤ 65536) (h : (y1 - 1 - y0) * s < 0) :
    Calls Try.prog 41 #[.agg #[.int .i64 x0, .int .i64 y0, .int .i64 x1, .int .i64 y1], .int .i64 s, .int .i64 1, .int .i64 long] w fun e w' => e = .returned (.bool false) ∧ Below w.heap.size w w' := by
  have hp := mul_bd (a := y1 - 1 - y0) (b := s) (A := 65536) (B := 1099511627776) (by omega) (by omega) (by omega) (by omega)
  obtain ⟨hp0, hp1⟩ := hp
  go_enter Try.func41, Try.ntmps41
  go_wp2_with fail
  refine (fair_any x0 y0 x1 y1 true (by simp [hF.out]) _).mono ?_
  rintro e w1 ⟨rfl, hb1⟩
  obtain ⟨hc, hf⟩ := bcell hb1
  have hz : w.heap.size < w1.heap.size := by have := hb1.size; simp at this; omega
  have hB : Below w.heap.size w w1 := ((Below.refl _ _).alloc (Nat.le_refl _) _).trans (hb1.mono (by simp))
  go_wp2_with fail
  refine (near_any s true (by simp [Near, s0, s1]) _).mono ?_
  rintro e w1' ⟨rfl, rfl⟩
  go_wp2_with fail
  refine (empt_any x0 y0 x1 y1 false (by simp [hE.out]) _).mono ?_
  rintro e w2 ⟨rfl, hb2⟩
  obtain ⟨hc2, hf2⟩ := bcell hb2
  have hz2 : w.heap.size < w2.heap.size := by have := hb2.size; omega
  have hB2 : Below w.heap.size w w2 := hB.trans (hb2.mono (by omega))
  have q0 : w2.cell? ⟨w.heap.size, 0, none⟩ = some (.int .i64 x0) := (hc2 _ 0 (by omega)).trans ((hc _ 0 (by simp)).trans (by simp))
  have q1 : w2.cell? ⟨w.heap.size, 1, none⟩ = some (.int .i64 y0) := (hc2 _ 1 (by omega)).trans ((hc _ 1 (by simp)).trans (by simp))
  have q2 : w2.cell? ⟨w.heap.size, 2, none⟩ = some (.int .i64 x1) := (hc2 _ 2 (by omega)).trans ((hc _ 2 (by simp)).trans (by simp))
  have q3 : w2.cell? ⟨w.heap.size, 3, none⟩ = some (.int .i64 y1) := (hc2 _ 3 (by omega)).trans ((hc _ 3 (by simp)).trans (by simp))
  clear hb1 hc hf hb2 hc2 hf2 hB
  have HW := Lib.hid (IntWalk.i64_in (x1 - 1) (by omega))
  go_wp2
  go_region_held3 (fun w' => w.heap.size < w'.heap.size ∧ Below w.heap.size w w' ∧ w'.cell? ⟨w.heap.size, 0, none⟩ = some (.int .i64 x0) ∧ w'.cell? ⟨w.heap.size, 1, none⟩ = some (.int .i64 y0) ∧ w'.cell? ⟨w.heap.size, 2, none⟩ = some (.int .i64 x1) ∧ w'.cell? ⟨w.heap.size, 3, none⟩ = some (.int .i64 y1))
    (first | exact ⟨hz2, hB2.drew, q0, q1, q2, q3⟩ | exact keep4 (by assumption) (by assumption))
    (first | (go_at_call 38; (try rw [HW.out]); refine (offs_any _ _ _ _ _ _ _ _ ?_ ?_ ?_ ?_ ?_ ?_).mono ?_; omega; omega; omega; omega; omega; omega; rintro e w3 ⟨rfl, hb3⟩))
  rename_i hS
  have hB4 := hS.2.1
  go_wp2
  go_ret
  exact ⟨by first | (simp; done) | (simp; omega), hB4⟩
theorem fits_yes (x0 y0 x1 y1 s long : Int) (w : World) (hF : Hid (Fair x0 y0 x1 y1)) (s0 : -1099511627776 ≤ s) (s1 : s ≤ 1099511627776) (hE : Hid (¬ Empt x0 y0 x1 y1)) (n1 : -1099511627776 ≤ x0) (n3 : -1099511627776 ≤ y0) (n6 : x1 ≤ 1099511627776) (n8 : y1 ≤ 1099511627776) (h0 : x0 < x1) (h1 : y0 < y1) (h2 : x1 - x0 ≤ 65536) (h3 : y1 - y0 ≤ 65536) (h4 : 0 ≤ (y1 - 1 - y0) * s) (h : (x1 - 1 - x0) * 1 + (y1 - 1 - y0) * s + 1 ≤ long) :
    Calls Try.prog 41 #[.agg #[.int .i64 x0, .int .i64 y0, .int .i64 x1, .int .i64 y1], .int .i64 s, .int .i64 1, .int .i64 long] w fun e w' => e = .returned (.bool true) ∧ Below w.heap.size w w' := by
  have hp := mul_bd (a := y1 - 1 - y0) (b := s) (A := 65536) (B := 1099511627776) (by omega) (by omega) (by omega) (by omega)
  obtain ⟨hp0, hp1⟩ := hp
  go_enter Try.func41, Try.ntmps41
  go_wp2_with fail
  refine (fair_any x0 y0 x1 y1 true (by simp [hF.out]) _).mono ?_
  rintro e w1 ⟨rfl, hb1⟩
  obtain ⟨hc, hf⟩ := bcell hb1
  have hz : w.heap.size < w1.heap.size := by have := hb1.size; simp at this; omega
  have hB : Below w.heap.size w w1 := ((Below.refl _ _).alloc (Nat.le_refl _) _).trans (hb1.mono (by simp))
  go_wp2_with fail
  refine (near_any s true (by simp [Near, s0, s1]) _).mono ?_
  rintro e w1' ⟨rfl, rfl⟩
  go_wp2_with fail
  refine (empt_any x0 y0 x1 y1 false (by simp [hE.out]) _).mono ?_
  rintro e w2 ⟨rfl, hb2⟩
  obtain ⟨hc2, hf2⟩ := bcell hb2
  have hz2 : w.heap.size < w2.heap.size := by have := hb2.size; omega
  have hB2 : Below w.heap.size w w2 := hB.trans (hb2.mono (by omega))
  have q0 : w2.cell? ⟨w.heap.size, 0, none⟩ = some (.int .i64 x0) := (hc2 _ 0 (by omega)).trans ((hc _ 0 (by simp)).trans (by simp))
  have q1 : w2.cell? ⟨w.heap.size, 1, none⟩ = some (.int .i64 y0) := (hc2 _ 1 (by omega)).trans ((hc _ 1 (by simp)).trans (by simp))
  have q2 : w2.cell? ⟨w.heap.size, 2, none⟩ = some (.int .i64 x1) := (hc2 _ 2 (by omega)).trans ((hc _ 2 (by simp)).trans (by simp))
  have q3 : w2.cell? ⟨w.heap.size, 3, none⟩ = some (.int .i64 y1) := (hc2 _ 3 (by omega)).trans ((hc _ 3 (by simp)).trans (by simp))
  clear hb1 hc hf hb2 hc2 hf2 hB
  have HW := Lib.hid (IntWalk.i64_in (x1 - 1) (by omega))
  go_wp2
  go_region_held3 (fun w' => w.heap.size < w'.heap.size ∧ Below w.heap.size w w' ∧ w'.cell? ⟨w.heap.size, 0, none⟩ = some (.int .i64 x0) ∧ w'.cell? ⟨w.heap.size, 1, none⟩ = some (.int .i64 y0) ∧ w'.cell? ⟨w.heap.size, 2, none⟩ = some (.int .i64 x1) ∧ w'.cell? ⟨w.heap.size, 3, none⟩ = some (.int .i64 y1))
    (first | exact ⟨hz2, hB2.drew, q0, q1, q2, q3⟩ | exact keep4 (by assumption) (by assumption))
    (first | (go_at_call 38; (try rw [HW.out]); refine (offs_any _ _ _ _ _ _ _ _ ?_ ?_ ?_ ?_ ?_ ?_).mono ?_; omega; omega; omega; omega; omega; omega; rintro e w3 ⟨rfl, hb3⟩))
  rename_i hS
  have hB4 := hS.2.1
  go_wp2
  go_ret
  exact ⟨by first | (simp; done) | (simp; omega), hB4⟩
theorem fits_no (x0 y0 x1 y1 s long : Int) (w : World) (hF : Hid (Fair x0 y0 x1 y1)) (s0 : -1099511627776 ≤ s) (s1 : s ≤ 1099511627776) (hE : Hid (¬ Empt x0 y0 x1 y1)) (n1 : -1099511627776 ≤ x0) (n3 : -1099511627776 ≤ y0) (n6 : x1 ≤ 1099511627776) (n8 : y1 ≤ 1099511627776) (h0 : x0 < x1) (h1 : y0 < y1) (h2 : x1 - x0 ≤ 65536) (h3 : y1 - y0 ≤ 65536) (h4 : 0 ≤ (y1 - 1 - y0) * s) (h : long < (x1 - 1 - x0) * 1 + (y1 - 1 - y0) * s + 1) :
    Calls Try.prog 41 #[.agg #[.int .i64 x0, .int .i64 y0, .int .i64 x1, .int .i64 y1], .int .i64 s, .int .i64 1, .int .i64 long] w fun e w' => e = .returned (.bool false) ∧ Below w.heap.size w w' := by
  have hp := mul_bd (a := y1 - 1 - y0) (b := s) (A := 65536) (B := 1099511627776) (by omega) (by omega) (by omega) (by omega)
  obtain ⟨hp0, hp1⟩ := hp
  go_enter Try.func41, Try.ntmps41
  go_wp2_with fail
  refine (fair_any x0 y0 x1 y1 true (by simp [hF.out]) _).mono ?_
  rintro e w1 ⟨rfl, hb1⟩
  obtain ⟨hc, hf⟩ := bcell hb1
  have hz : w.heap.size < w1.heap.size := by have := hb1.size; simp at this; omega
  have hB : Below w.heap.size w w1 := ((Below.refl _ _).alloc (Nat.le_refl _) _).trans (hb1.mono (by simp))
  go_wp2_with fail
  refine (near_any s true (by simp [Near, s0, s1]) _).mono ?_
  rintro e w1' ⟨rfl, rfl⟩
  go_wp2_with fail
  refine (empt_any x0 y0 x1 y1 false (by simp [hE.out]) _).mono ?_
  rintro e w2 ⟨rfl, hb2⟩
  obtain ⟨hc2, hf2⟩ := bcell hb2
  have hz2 : w.heap.size < w2.heap.size := by have := hb2.size; omega
  have hB2 : Below w.heap.size w w2 := hB.trans (hb2.mono (by omega))
  have q0 : w2.cell? ⟨w.heap.size, 0, none⟩ = some (.int .i64 x0) := (hc2 _ 0 (by omega)).trans ((hc _ 0 (by simp)).trans (by simp))
  have q1 : w2.cell? ⟨w.heap.size, 1, none⟩ = some (.int .i64 y0) := (hc2 _ 1 (by omega)).trans ((hc _ 1 (by simp)).trans (by simp))
  have q2 : w2.cell? ⟨w.heap.size, 2, none⟩ = some (.int .i64 x1) := (hc2 _ 2 (by omega)).trans ((hc _ 2 (by simp)).trans (by simp))
  have q3 : w2.cell? ⟨w.heap.size, 3, none⟩ = some (.int .i64 y1) := (hc2 _ 3 (by omega)).trans ((hc _ 3 (by simp)).trans (by simp))
  clear hb1 hc hf hb2 hc2 hf2 hB
  have HW := Lib.hid (IntWalk.i64_in (x1 - 1) (by omega))
  go_wp2
  go_region_held3 (fun w' => w.heap.size < w'.heap.size ∧ Below w.heap.size w w' ∧ w'.cell? ⟨w.heap.size, 0, none⟩ = some (.int .i64 x0) ∧ w'.cell? ⟨w.heap.size, 1, none⟩ = some (.int .i64 y0) ∧ w'.cell? ⟨w.heap.size, 2, none⟩ = some (.int .i64 x1) ∧ w'.cell? ⟨w.heap.size, 3, none⟩ = some (.int .i64 y1))
    (first | exact ⟨hz2, hB2.drew, q0, q1, q2, q3⟩ | exact keep4 (by assumption) (by assumption))
    (first | (go_at_call 38; (try rw [HW.out]); refine (offs_any _ _ _ _ _ _ _ _ ?_ ?_ ?_ ?_ ?_ ?_).mono ?_; omega; omega; omega; omega; omega; omega; rintro e w3 ⟨rfl, hb3⟩))
  rename_i hS
  have hB4 := hS.2.1
  go_wp2
  go_ret
  exact ⟨by first | (simp; done) | (simp; omega), hB4⟩
theorem fits_any (x0 y0 x1 y1 s long : Int) (b : Bool) (hb : b = true ↔ Fits x0 y0 x1 y1 s 1 long) (w : World) :
    Calls Try.prog 41 #[.agg #[.int .i64 x0, .int .i64 y0, .int .i64 x1, .int .i64 y1], .int .i64 s, .int .i64 1, .int .i64 long] w fun e w' => e = .returned (.bool b) ∧ Below w.heap.size w w' := by
  have no : ¬ Fits x0 y0 x1 y1 s 1 long → b = false := fun h => by cases b with | false => rfl | true => exact absurd (hb.1 rfl) h
  by_cases hF : Fair x0 y0 x1 y1
  · by_cases h0 : s < -1099511627776
    · rw [no (fun h => by have := h.2.1.1; omega)]
      exact fits_lo x0 y0 x1 y1 s long w hF h0
    by_cases h1 : 1099511627776 < s
    · rw [no (fun h => by have := h.2.1.2; omega)]
      exact fits_hi x0 y0 x1 y1 s long w hF h1
    by_cases hE : Empt x0 y0 x1 y1
    · rw [hb.2 ⟨hF, ⟨by omega, by omega⟩, Or.inl hE⟩]
      exact fits_empty x0 y0 x1 y1 s long w hF (by omega) (by omega) hE
    · obtain ⟨⟨⟨n1, _⟩, ⟨n3, _⟩, ⟨_, n6⟩, ⟨_, n8⟩⟩, g1, g2, g3, g4, _⟩ := id hF
      have hE' : x0 < x1 ∧ y0 < y1 := by unfold Empt at hE; omega
      by_cases h2 : (y1 - 1 - y0) * s < 0
      · rw [no (fun h => by rcases h.2.2 with h | h; exact hE h; omega)]
        exact fits_down x0 y0 x1 y1 s long w hF (by omega) (by omega) hE n1 n3 n6 n8 hE'.1 hE'.2 g3 g4 h2
      by_cases h3 : long < (x1 - 1 - x0) * 1 + (y1 - 1 - y0) * s + 1
      · rw [no (fun h => by rcases h.2.2 with h | h; exact hE h; omega)]
        exact fits_no x0 y0 x1 y1 s long w hF (by omega) (by omega) hE n1 n3 n6 n8 hE'.1 hE'.2 g3 g4 (by omega) h3
      rw [hb.2 ⟨hF, ⟨by omega, by omega⟩, Or.inr ⟨by omega, by omega⟩⟩]
      exact fits_yes x0 y0 x1 y1 s long w hF (by omega) (by omega) hE n1 n3 n6 n8 hE'.1 hE'.2 g3 g4 (by omega) (by omega)
  · rw [no (fun h => hF h.1)]
    exact fits_unfair x0 y0 x1 y1 s long w hF

end Go.Proofs.Ytkhgobeeaiagfaa
