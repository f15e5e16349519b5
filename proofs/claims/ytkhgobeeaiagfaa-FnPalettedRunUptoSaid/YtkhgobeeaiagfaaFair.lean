/- Contracts of the reference's functions Fair, Offset, Fits. -/
import Derived.Test.YtkhgobeeaiagfaaSpec
namespace Go.Proofs.Ytkhgobeeaiagfaa
open Go.RowKit
set_option linter.unusedVariables false

theorem fair_far (x0 y0 x1 y1 : Int) (w : World) (hN : Hid (¬ Near4 x0 y0 x1 y1)) :
    Calls Try.prog 29 #[.agg #[.int .i64 x0, .int .i64 y0, .int .i64 x1, .int .i64 y1]] w fun e w' => e = .returned (.bool false) ∧ Below w.heap.size w w' := by
  go_enter Try.func29, Try.ntmps29
  go_wp2_with fail
  refine (near4_any x0 y0 x1 y1 false (by simp [hN.out]) _).mono ?_
  rintro e w1 ⟨rfl, hb1⟩
  have hB : Below w.heap.size w w1 := ((Below.refl _ _).alloc (Nat.le_refl _) _).trans (hb1.mono (by simp))
  go_wp2
  go_ret
  exact ⟨by first | (simp; done) | (simp; omega), hB⟩
theorem fair_x (x0 y0 x1 y1 : Int) (w : World) (hN : Hid (Near4 x0 y0 x1 y1)) (n1 : -1099511627776 ≤ x0) (n2 : x0 ≤ 1099511627776) (n3 : -1099511627776 ≤ y0) (n4 : y0 ≤ 1099511627776) (n5 : -1099511627776 ≤ x1) (n6 : x1 ≤ 1099511627776) (n7 : -1099511627776 ≤ y1) (n8 : y1 ≤ 1099511627776) (h : x1 < x0) :
    Calls Try.prog 29 #[.agg #[.int .i64 x0, .int .i64 y0, .int .i64 x1, .int .i64 y1]] w fun e w' => e = .returned (.bool false) ∧ Below w.heap.size w w' := by
  go_enter Try.func29, Try.ntmps29
  go_wp2_with fail
  refine (near4_any x0 y0 x1 y1 true (by simp [hN.out]) _).mono ?_
  rintro e w1 ⟨rfl, hb1⟩
  obtain ⟨hc, hf⟩ := bcell hb1
  have hz : w.heap.size < w1.heap.size := by have := hb1.size; simp at this; omega
  have hB : Below w.heap.size w w1 := ((Below.refl _ _).alloc (Nat.le_refl _) _).trans (hb1.mono (by simp))
  go_wp2
  go_ret
  exact ⟨by first | (simp; done) | (simp; omega), hB⟩
theorem fair_y (x0 y0 x1 y1 : Int) (w : World) (hN : Hid (Near4 x0 y0 x1 y1)) (n1 : -1099511627776 ≤ x0) (n2 : x0 ≤ 1099511627776) (n3 : -1099511627776 ≤ y0) (n4 : y0 ≤ 1099511627776) (n5 : -1099511627776 ≤ x1) (n6 : x1 ≤ 1099511627776) (n7 : -1099511627776 ≤ y1) (n8 : y1 ≤ 1099511627776) (h0 : x0 ≤ x1) (h : y1 < y0) :
    Calls Try.prog 29 #[.agg #[.int .i64 x0, .int .i64 y0, .int .i64 x1, .int .i64 y1]] w fun e w' => e = .returned (.bool false) ∧ Below w.heap.size w w' := by
  go_enter Try.func29, Try.ntmps29
  go_wp2_with fail
  refine (near4_any x0 y0 x1 y1 true (by simp [hN.out]) _).mono ?_
  rintro e w1 ⟨rfl, hb1⟩
  obtain ⟨hc, hf⟩ := bcell hb1
  have hz : w.heap.size < w1.heap.size := by have := hb1.size; simp at this; omega
  have hB : Below w.heap.size w w1 := ((Below.refl _ _).alloc (Nat.le_refl _) _).trans (hb1.mono (by simp))
  go_wp2
  go_ret
  exact ⟨by first | (simp; done) | (simp; omega), hB⟩
theorem fair_e1 (x0 y0 x1 y1 : Int) (w : World) (hN : Hid (Near4 x0 y0 x1 y1)) (n1 : -1099511627776 ≤ x0) (n2 : x0 ≤ 1099511627776) (n3 : -1099511627776 ≤ y0) (n4 : y0 ≤ 1099511627776) (n5 : -1099511627776 ≤ x1) (n6 : x1 ≤ 1099511627776) (n7 : -1099511627776 ≤ y1) (n8 : y1 ≤ 1099511627776) (hE : Hid (Empt x0 y0 x1 y1)) (h0 : x0 ≤ x1) (h1 : y0 ≤ y1) (h : 65536 < x1 - x0) :
    Calls Try.prog 29 #[.agg #[.int .i64 x0, .int .i64 y0, .int .i64 x1, .int .i64 y1]] w fun e w' => e = .returned (.bool false) ∧ Below w.heap.size w w' := by
  go_enter Try.func29, Try.ntmps29
  go_wp2_with fail
  refine (near4_any x0 y0 x1 y1 true (by simp [hN.out]) _).mono ?_
  rintro e w1 ⟨rfl, hb1⟩
  obtain ⟨hc, hf⟩ := bcell hb1
  have hz : w.heap.size < w1.heap.size := by have := hb1.size; simp at this; omega
  have hB : Below w.heap.size w w1 := ((Below.refl _ _).alloc (Nat.le_refl _) _).trans (hb1.mono (by simp))
  go_wp2_with fail
  refine (empt_any x0 y0 x1 y1 true (by simp [hE.out]) _).mono ?_
  rintro e w2 ⟨rfl, hb2⟩
  obtain ⟨hc2, hf2⟩ := bcell hb2
  have hz2 : w.heap.size < w2.heap.size := by have := hb2.size; omega
  have hB2 : Below w.heap.size w w2 := hB.trans (hb2.mono (by omega))
  go_wp2
  go_ret
  exact ⟨by first | (simp; done) | (simp; omega), hB2⟩
theorem fair_e2 (x0 y0 x1 y1 : Int) (w : World) (hN : Hid (Near4 x0 y0 x1 y1)) (n1 : -1099511627776 ≤ x0) (n2 : x0 ≤ 1099511627776) (n3 : -1099511627776 ≤ y0) (n4 : y0 ≤ 1099511627776) (n5 : -1099511627776 ≤ x1) (n6 : x1 ≤ 1099511627776) (n7 : -1099511627776 ≤ y1) (n8 : y1 ≤ 1099511627776) (hE : Hid (Empt x0 y0 x1 y1)) (h0 : x0 ≤ x1) (h1 : y0 ≤ y1) (h2 : x1 - x0 ≤ 65536) (h : 65536 < y1 - y0) :
    Calls Try.prog 29 #[.agg #[.int .i64 x0, .int .i64 y0, .int .i64 x1, .int .i64 y1]] w fun e w' => e = .returned (.bool false) ∧ Below w.heap.size w w' := by
  go_enter Try.func29, Try.ntmps29
  go_wp2_with fail
  refine (near4_any x0 y0 x1 y1 true (by simp [hN.out]) _).mono ?_
  rintro e w1 ⟨rfl, hb1⟩
  obtain ⟨hc, hf⟩ := bcell hb1
  have hz : w.heap.size < w1.heap.size := by have := hb1.size; simp at this; omega
  have hB : Below w.heap.size w w1 := ((Below.refl _ _).alloc (Nat.le_refl _) _).trans (hb1.mono (by simp))
  go_wp2_with fail
  refine (empt_any x0 y0 x1 y1 true (by simp [hE.out]) _).mono ?_
  rintro e w2 ⟨rfl, hb2⟩
  obtain ⟨hc2, hf2⟩ := bcell hb2
  have hz2 : w.heap.size < w2.heap.size := by have := hb2.size; omega
  have hB2 : Below w.heap.size w w2 := hB.trans (hb2.mono (by omega))
  go_wp2
  go_ret
  exact ⟨by first | (simp; done) | (simp; omega), hB2⟩
theorem fair_e3 (x0 y0 x1 y1 : Int) (w : World) (hN : Hid (Near4 x0 y0 x1 y1)) (n1 : -1099511627776 ≤ x0) (n2 : x0 ≤ 1099511627776) (n3 : -1099511627776 ≤ y0) (n4 : y0 ≤ 1099511627776) (n5 : -1099511627776 ≤ x1) (n6 : x1 ≤ 1099511627776) (n7 : -1099511627776 ≤ y1) (n8 : y1 ≤ 1099511627776) (hE : Hid (Empt x0 y0 x1 y1)) (h0 : x0 ≤ x1) (h1 : y0 ≤ y1) (h2 : x1 - x0 ≤ 65536) (h : y1 - y0 ≤ 65536) :
    Calls Try.prog 29 #[.agg #[.int .i64 x0, .int .i64 y0, .int .i64 x1, .int .i64 y1]] w fun e w' => e = .returned (.bool true) ∧ Below w.heap.size w w' := by
  go_enter Try.func29, Try.ntmps29
  go_wp2_with fail
  refine (near4_any x0 y0 x1 y1 true (by simp [hN.out]) _).mono ?_
  rintro e w1 ⟨rfl, hb1⟩
  obtain ⟨hc, hf⟩ := bcell hb1
  have hz : w.heap.size < w1.heap.size := by have := hb1.size; simp at this; omega
  have hB : Below w.heap.size w w1 := ((Below.refl _ _).alloc (Nat.le_refl _) _).trans (hb1.mono (by simp))
  go_wp2_with fail
  refine (empt_any x0 y0 x1 y1 true (by simp [hE.out]) _).mono ?_
  rintro e w2 ⟨rfl, hb2⟩
  obtain ⟨hc2, hf2⟩ := bcell hb2
  have hz2 : w.heap.size < w2.heap.size := by have := hb2.size; omega
  have hB2 : Below w.heap.size w w2 := hB.trans (hb2.mono (by omega))
  go_wp2
  go_ret
  exact ⟨by first | (simp; done) | (simp; omega), hB2⟩
theorem fair_n1 (x0 y0 x1 y1 : Int) (w : World) (hN : Hid (Near4 x0 y0 x1 y1)) (n1 : -1099511627776 ≤ x0) (n2 : x0 ≤ 1099511627776) (n3 : -1099511627776 ≤ y0) (n4 : y0 ≤ 1099511627776) (n5 : -1099511627776 ≤ x1) (n6 : x1 ≤ 1099511627776) (n7 : -1099511627776 ≤ y1) (n8 : y1 ≤ 1099511627776) (hE : Hid (¬ Empt x0 y0 x1 y1)) (h0 : x0 < x1) (h1 : y0 < y1) (h : 65536 < x1 - x0) :
    Calls Try.prog 29 #[.agg #[.int .i64 x0, .int .i64 y0, .int .i64 x1, .int .i64 y1]] w fun e w' => e = .returned (.bool false) ∧ Below w.heap.size w w' := by
  go_enter Try.func29, Try.ntmps29
  go_wp2_with fail
  refine (near4_any x0 y0 x1 y1 true (by simp [hN.out]) _).mono ?_
  rintro e w1 ⟨rfl, hb1⟩
  obtain ⟨hc, hf⟩ := bcell hb1
  have hz : w.heap.size < w1.heap.size := by have := hb1.size; simp at this; omega
  have hB : Below w.heap.size w w1 := ((Below.refl _ _).alloc (Nat.le_refl _) _).trans (hb1.mono (by simp))
  go_wp2_with fail
  refine (empt_any x0 y0 x1 y1 false (by simp [hE.out]) _).mono ?_
  rintro e w2 ⟨rfl, hb2⟩
  obtain ⟨hc2, hf2⟩ := bcell hb2
  have hz2 : w.heap.size < w2.heap.size := by have := hb2.size; omega
  have hB2 : Below w.heap.size w w2 := hB.trans (hb2.mono (by omega))
  go_wp2
  go_quiet (fail)
  go_wp2
  go_ret
  exact ⟨by first | (simp; done) | (simp; omega), below_drewN hB2 _⟩
theorem fair_n2 (x0 y0 x1 y1 : Int) (w : World) (hN : Hid (Near4 x0 y0 x1 y1)) (n1 : -1099511627776 ≤ x0) (n2 : x0 ≤ 1099511627776) (n3 : -1099511627776 ≤ y0) (n4 : y0 ≤ 1099511627776) (n5 : -1099511627776 ≤ x1) (n6 : x1 ≤ 1099511627776) (n7 : -1099511627776 ≤ y1) (n8 : y1 ≤ 1099511627776) (hE : Hid (¬ Empt x0 y0 x1 y1)) (h0 : x0 < x1) (h1 : y0 < y1) (h2 : x1 - x0 ≤ 65536) (h : 65536 < y1 - y0) :
    Calls Try.prog 29 #[.agg #[.int .i64 x0, .int .i64 y0, .int .i64 x1, .int .i64 y1]] w fun e w' => e = .returned (.bool false) ∧ Below w.heap.size w w' := by
  go_enter Try.func29, Try.ntmps29
  go_wp2_with fail
  refine (near4_any x0 y0 x1 y1 true (by simp [hN.out]) _).mono ?_
  rintro e w1 ⟨rfl, hb1⟩
  obtain ⟨hc, hf⟩ := bcell hb1
  have hz : w.heap.size < w1.heap.size := by have := hb1.size; simp at this; omega
  have hB : Below w.heap.size w w1 := ((Below.refl _ _).alloc (Nat.le_refl _) _).trans (hb1.mono (by simp))
  go_wp2_with fail
  refine (empt_any x0 y0 x1 y1 false (by simp [hE.out]) _).mono ?_
  rintro e w2 ⟨rfl, hb2⟩
  obtain ⟨hc2, hf2⟩ := bcell hb2
  have hz2 : w.heap.size < w2.heap.size := by have := hb2.size; omega
  have hB2 : Below w.heap.size w w2 := hB.trans (hb2.mono (by omega))
  go_wp2
  go_quiet (fail)
  go_wp2
  go_ret
  exact ⟨by first | (simp; done) | (simp; omega), below_drewN hB2 _⟩
theorem fair_n3 (x0 y0 x1 y1 : Int) (w : World) (hN : Hid (Near4 x0 y0 x1 y1)) (n1 : -1099511627776 ≤ x0) (n2 : x0 ≤ 1099511627776) (n3 : -1099511627776 ≤ y0) (n4 : y0 ≤ 1099511627776) (n5 : -1099511627776 ≤ x1) (n6 : x1 ≤ 1099511627776) (n7 : -1099511627776 ≤ y1) (n8 : y1 ≤ 1099511627776) (hE : Hid (¬ Empt x0 y0 x1 y1)) (h0 : x0 < x1) (h1 : y0 < y1) (h2 : x1 - x0 ≤ 65536) (h3 : y1 - y0 ≤ 65536) (h : 65536 < (x1 - x0) * (y1 - y0)) :
    Calls Try.prog 29 #[.agg #[.int .i64 x0, .int .i64 y0, .int .i64 x1, .int .i64 y1]] w fun e w' => e = .returned (.bool false) ∧ Below w.heap.size w w' := by
  have hp := mul_bd (a := x1 - x0) (b := y1 - y0) (A := 65536) (B := 65536) (by omega) (by omega) (by omega) (by omega)
  obtain ⟨hp0, hp1⟩ := hp
  go_enter Try.func29, Try.ntmps29
  go_wp2_with fail
  refine (near4_any x0 y0 x1 y1 true (by simp [hN.out]) _).mono ?_
  rintro e w1 ⟨rfl, hb1⟩
  obtain ⟨hc, hf⟩ := bcell hb1
  have hz : w.heap.size < w1.heap.size := by have := hb1.size; simp at this; omega
  have hB : Below w.heap.size w w1 := ((Below.refl _ _).alloc (Nat.le_refl _) _).trans (hb1.mono (by simp))
  go_wp2_with fail
  refine (empt_any x0 y0 x1 y1 false (by simp [hE.out]) _).mono ?_
  rintro e w2 ⟨rfl, hb2⟩
  obtain ⟨hc2, hf2⟩ := bcell hb2
  have hz2 : w.heap.size < w2.heap.size := by have := hb2.size; omega
  have hB2 : Below w.heap.size w w2 := hB.trans (hb2.mono (by omega))
  go_wp2
  go_quiet (fail)
  go_wp2
  go_ret
  exact ⟨by first | (simp; done) | (simp; omega), below_drewN hB2 _⟩
theorem fair_n4 (x0 y0 x1 y1 : Int) (w : World) (hN : Hid (Near4 x0 y0 x1 y1)) (n1 : -1099511627776 ≤ x0) (n2 : x0 ≤ 1099511627776) (n3 : -1099511627776 ≤ y0) (n4 : y0 ≤ 1099511627776) (n5 : -1099511627776 ≤ x1) (n6 : x1 ≤ 1099511627776) (n7 : -1099511627776 ≤ y1) (n8 : y1 ≤ 1099511627776) (hE : Hid (¬ Empt x0 y0 x1 y1)) (h0 : x0 < x1) (h1 : y0 < y1) (h2 : x1 - x0 ≤ 65536) (h3 : y1 - y0 ≤ 65536) (h : (x1 - x0) * (y1 - y0) ≤ 65536) :
    Calls Try.prog 29 #[.agg #[.int .i64 x0, .int .i64 y0, .int .i64 x1, .int .i64 y1]] w fun e w' => e = .returned (.bool true) ∧ Below w.heap.size w w' := by
  have hp := mul_bd (a := x1 - x0) (b := y1 - y0) (A := 65536) (B := 65536) (by omega) (by omega) (by omega) (by omega)
  obtain ⟨hp0, hp1⟩ := hp
  go_enter Try.func29, Try.ntmps29
  go_wp2_with fail
  refine (near4_any x0 y0 x1 y1 true (by simp [hN.out]) _).mono ?_
  rintro e w1 ⟨rfl, hb1⟩
  obtain ⟨hc, hf⟩ := bcell hb1
  have hz : w.heap.size < w1.heap.size := by have := hb1.size; simp at this; omega
  have hB : Below w.heap.size w w1 := ((Below.refl _ _).alloc (Nat.le_refl _) _).trans (hb1.mono (by simp))
  go_wp2_with fail
  refine (empt_any x0 y0 x1 y1 false (by simp [hE.out]) _).mono ?_
  rintro e w2 ⟨rfl, hb2⟩
  obtain ⟨hc2, hf2⟩ := bcell hb2
  have hz2 : w.heap.size < w2.heap.size := by have := hb2.size; omega
  have hB2 : Below w.heap.size w w2 := hB.trans (hb2.mono (by omega))
  go_wp2
  go_quiet (fail)
  go_wp2
  go_ret
  exact ⟨by first | (simp; done) | (simp; omega), below_drewN hB2 _⟩
theorem fair_any (x0 y0 x1 y1 : Int) (b : Bool) (hb : b = true ↔ Fair x0 y0 x1 y1) (w : World) :
    Calls Try.prog 29 #[.agg #[.int .i64 x0, .int .i64 y0, .int .i64 x1, .int .i64 y1]] w fun e w' => e = .returned (.bool b) ∧ Below w.heap.size w w' := by
  have no : ¬ Fair x0 y0 x1 y1 → b = false := fun h => by cases b with | false => rfl | true => exact absurd (hb.1 rfl) h
  by_cases hN : Near4 x0 y0 x1 y1
  · obtain ⟨⟨n1, n2⟩, ⟨n3, n4⟩, ⟨n5, n6⟩, ⟨n7, n8⟩⟩ := id hN
    by_cases h0 : x1 < x0
    · rw [no (fun h => by have := h.2.1; omega)]
      exact fair_x x0 y0 x1 y1 w hN n1 n2 n3 n4 n5 n6 n7 n8 h0
    by_cases h1 : y1 < y0
    · rw [no (fun h => by have := h.2.2.1; omega)]
      exact fair_y x0 y0 x1 y1 w hN n1 n2 n3 n4 n5 n6 n7 n8 (by omega) h1
    by_cases hE : Empt x0 y0 x1 y1
    · have hp : (x1 - x0) * (y1 - y0) = 0 := by
        unfold Empt at hE
        rcases hE with hE | hE
        · rw [show x1 - x0 = 0 by omega]; simp
        · rw [show y1 - y0 = 0 by omega]; simp
      by_cases h2 : 65536 < x1 - x0
      · rw [no (fun h => by have := h.2.2.2.1; omega)]
        exact fair_e1 x0 y0 x1 y1 w hN n1 n2 n3 n4 n5 n6 n7 n8 hE (by omega) (by omega) h2
      by_cases h3 : 65536 < y1 - y0
      · rw [no (fun h => by have := h.2.2.2.2.1; omega)]
        exact fair_e2 x0 y0 x1 y1 w hN n1 n2 n3 n4 n5 n6 n7 n8 hE (by omega) (by omega) (by omega) h3
      rw [hb.2 ⟨hN, by omega, by omega, by omega, by omega, by omega⟩]
      exact fair_e3 x0 y0 x1 y1 w hN n1 n2 n3 n4 n5 n6 n7 n8 hE (by omega) (by omega) (by omega) (by omega)
    · have hE' : x0 < x1 ∧ y0 < y1 := by unfold Empt at hE; omega
      by_cases h2 : 65536 < x1 - x0
      · rw [no (fun h => by have := h.2.2.2.1; omega)]
        exact fair_n1 x0 y0 x1 y1 w hN n1 n2 n3 n4 n5 n6 n7 n8 hE hE'.1 hE'.2 h2
      by_cases h3 : 65536 < y1 - y0
      · rw [no (fun h => by have := h.2.2.2.2.1; omega)]
        exact fair_n2 x0 y0 x1 y1 w hN n1 n2 n3 n4 n5 n6 n7 n8 hE hE'.1 hE'.2 (by omega) h3
      by_cases h4 : 65536 < (x1 - x0) * (y1 - y0)
      · rw [no (fun h => by have := h.2.2.2.2.2; omega)]
        exact fair_n3 x0 y0 x1 y1 w hN n1 n2 n3 n4 n5 n6 n7 n8 hE hE'.1 hE'.2 (by omega) (by omega) h4
      rw [hb.2 ⟨hN, by omega, by omega, by omega, by omega, by omega⟩]
      exact fair_n4 x0 y0 x1 y1 w hN n1 n2 n3 n4 n5 n6 n7 n8 hE hE'.1 hE'.2 (by omega) (by omega) (by omega)
  · rw [no (fun h => hN h.1)]
    exact fair_far x0 y0 x1 y1 w hN

theorem offs_any (x0 y0 x1 y1 s x y : Int) (w : World) (b1 : -4398046511104 ≤ y - y0) (b2 : y - y0 ≤ 4398046511104) (b3 : -4398046511104 ≤ x - x0) (b4 : x - x0 ≤ 4398046511104)
    (p1 : -2305843009213693952 ≤ (y - y0) * s) (p2 : (y - y0) * s ≤ 2305843009213693952) :
    Calls Try.prog 38 #[.agg #[.int .i64 x0, .int .i64 y0, .int .i64 x1, .int .i64 y1], .int .i64 s, .int .i64 1, .int .i64 x, .int .i64 y] w fun e w' => e = .returned (.int .i64 ((y - y0) * s + (x - x0) * 1)) ∧ Below w.heap.size w w' := by
  go_enter Try.func38, Try.ntmps38
  go_wp2
  go_ret
  exact ⟨by first | (simp; done) | (simp; omega), (Below.refl _ _).alloc (Nat.le_refl _) _⟩

end Go.Proofs.Ytkhgobeeaiagfaa
