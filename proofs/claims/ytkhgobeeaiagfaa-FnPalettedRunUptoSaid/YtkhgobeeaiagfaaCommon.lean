/- Contracts: Common of the reference; Empty and Intersect of rectangles. -/
import Derived.Test.YtkhgobeeaiagfaaOf
namespace Go.Proofs.Ytkhgobeeaiagfaa
open Go.RowKit
set_option linter.unusedVariables false

theorem rempt_any (x0 y0 x1 y1 : Int) (b : Bool) (hb : b = true ↔ Empt x0 y0 x1 y1) (w : World) :
    Calls Try.prog 62 #[.agg #[.int .i64 x0, .int .i64 y0, .int .i64 x1, .int .i64 y1]] w fun e w' => e = .returned (.bool b) ∧ Below w.heap.size w w' := by
  by_cases h1 : x1 ≤ x0
  · obtain rfl : b = true := hb.2 (Or.inl h1)
    clear hb
    go_enter Try.func62, Try.ntmps62
    go_wp2
    go_ret
    exact ⟨by first | (simp; done) | (simp; omega), (Below.refl _ _).alloc (Nat.le_refl _) _⟩
  · by_cases h2 : y1 ≤ y0
    · obtain rfl : b = true := hb.2 (Or.inr h2)
      clear hb
      go_enter Try.func62, Try.ntmps62
      go_wp2
      go_ret
      exact ⟨by first | (simp; done) | (simp; omega), (Below.refl _ _).alloc (Nat.le_refl _) _⟩
    · obtain rfl : b = false := by cases b with | false => rfl | true => exact absurd (hb.1 rfl) (by unfold Empt; omega)
      clear hb
      go_enter Try.func62, Try.ntmps62
      go_wp2
      go_ret
      exact ⟨by first | (simp; done) | (simp; omega), (Below.refl _ _).alloc (Nat.le_refl _) _⟩

set_option maxHeartbeats 4000000 in
theorem common_some (x0 y0 x1 y1 a0 b0 a1 b1 : Int) (w : World) (n1 : x0 < x1) (n2 : y0 < y1) (n3 : a0 < a1) (n4 : b0 < b1) (n5 : max x0 a0 < min x1 a1) (n6 : max y0 b0 < min y1 b1) :
    Calls Try.prog 35 #[.agg #[.int .i64 x0, .int .i64 y0, .int .i64 x1, .int .i64 y1], .agg #[.int .i64 a0, .int .i64 b0, .int .i64 a1, .int .i64 b1]] w fun e w' => e = .returned (.tuple #[.agg #[.int .i64 (max x0 a0), .int .i64 (max y0 b0), .int .i64 (min x1 a1), .int .i64 (min y1 b1)], .bool true]) ∧ Below w.heap.size w w' := by
  go_enter Try.func35, Try.ntmps35
  go_wp2_with fail
  all_goals
    refine (empt_any x0 y0 x1 y1 false (by simp [Empt]; omega) _).mono ?_
    rintro e w1 ⟨rfl, hb1⟩
    have hz1 : w.heap.size + 3 < w1.heap.size := by have := hb1.size; simp at this; omega
    have hB1 : Below w.heap.size w w1 := (((((Below.refl _ _).alloc (Nat.le_refl _) _).alloc (by simp) _).alloc (by simp; omega) _).alloc (by simp; omega) _).trans (hb1.mono (by simp; omega))
    have k1_1 := fun o => (bcell hb1).1 (w.heap.size + 1) o (by simp)
    have k2_1 := fun o => (bcell hb1).1 (w.heap.size + 2) o (by simp)
    have k3_1 := fun o => (bcell hb1).1 (w.heap.size + 3) o (by simp)
    have f2_1 := fun o => (bcell hb1).2 (w.heap.size + 2) o (by simp)
    clear hb1
    go_wp2_with fail
    refine (empt_any a0 b0 a1 b1 false (by simp [Empt]; omega) _).mono ?_
    rintro e w2 ⟨rfl, hb2⟩
    have hz2 : w.heap.size + 3 < w2.heap.size := by have := hb2.size; omega
    have hB2 : Below w.heap.size w w2 := hB1.trans (hb2.mono (by omega))
    have k1_2 := fun o => ((bcell hb2).1 (w.heap.size + 1) o (by omega)).trans (k1_1 o)
    have k2_2 := fun o => ((bcell hb2).1 (w.heap.size + 2) o (by omega)).trans (k2_1 o)
    have k3_2 := fun o => ((bcell hb2).1 (w.heap.size + 3) o (by omega)).trans (k3_1 o)
    have f2_2 := fun o => ((bcell hb2).2 (w.heap.size + 2) o (by omega)).trans (f2_1 o)
    clear k1_1 k2_1 k3_1 f2_1
    clear hb2
    go_wp2_with fail
    refine (empt_any _ _ _ _ false (by simp [Empt]; omega) _).mono ?_
    rintro e w3 ⟨rfl, hb3⟩
    have hz3 : w.heap.size + 3 < w3.heap.size := by have := hb3.size; omega
    have hB3 : Below w.heap.size w w3 := hB2.trans (hb3.mono (by omega))
    have k1_3 := fun o => ((bcell hb3).1 (w.heap.size + 1) o (by omega)).trans (k1_2 o)
    have k2_3 := fun o => ((bcell hb3).1 (w.heap.size + 2) o (by omega)).trans (k2_2 o)
    have k3_3 := fun o => ((bcell hb3).1 (w.heap.size + 3) o (by omega)).trans (k3_2 o)
    have f2_3 := fun o => ((bcell hb3).2 (w.heap.size + 2) o (by omega)).trans (f2_2 o)
    clear k1_2 k2_2 k3_2 f2_2
    clear hb3
    go_wp2
    refine bodyPost_ret (v := .tuple #[.agg #[.int .i64 (max x0 a0), .int .i64 (max y0 b0), .int .i64 (min x1 a1), .int .i64 (min y1 b1)], .bool true]) ?_ rfl ⟨rfl, (((hB3.setCell (by simp; omega) _).setCell (by simp; omega) _).setCell (by simp; omega) _).setCell (by simp; omega) _⟩
    simp [results, Try.results35, go_sem, k2_3]
    omega


set_option maxHeartbeats 4000000 in
theorem common_none1 (x0 y0 x1 y1 a0 b0 a1 b1 : Int) (w : World) (hE : x1 ≤ x0 ∨ y1 ≤ y0) :
    Calls Try.prog 35 #[.agg #[.int .i64 x0, .int .i64 y0, .int .i64 x1, .int .i64 y1], .agg #[.int .i64 a0, .int .i64 b0, .int .i64 a1, .int .i64 b1]] w fun e w' => e = .returned (.tuple #[.agg #[.int .i64 0, .int .i64 0, .int .i64 0, .int .i64 0], .bool false]) ∧ Below w.heap.size w w' := by
  have HE := Lib.hid hE
  clear hE
  go_enter Try.func35, Try.ntmps35
  go_wp2_with fail
  all_goals
    refine (empt_any x0 y0 x1 y1 true (by simpa [Empt] using HE.out) _).mono ?_
    rintro e w1 ⟨rfl, hb1⟩
    have hz1 : w.heap.size + 3 < w1.heap.size := by have := hb1.size; simp at this; omega
    have hB1 : Below w.heap.size w w1 := (((((Below.refl _ _).alloc (Nat.le_refl _) _).alloc (by simp) _).alloc (by simp; omega) _).alloc (by simp; omega) _).trans (hb1.mono (by simp; omega))
    have k1_1 := fun o => (bcell hb1).1 (w.heap.size + 1) o (by simp)
    have k2_1 := fun o => (bcell hb1).1 (w.heap.size + 2) o (by simp)
    have k3_1 := fun o => (bcell hb1).1 (w.heap.size + 3) o (by simp)
    have f2_1 := fun o => (bcell hb1).2 (w.heap.size + 2) o (by simp)
    clear hb1
    go_wp2
    refine bodyPost_ret (v := .tuple #[.agg #[.int .i64 0, .int .i64 0, .int .i64 0, .int .i64 0], .bool false]) ?_ rfl ⟨rfl, (((hB1.setCell (by simp; omega) _).setCell (by simp; omega) _).setCell (by simp; omega) _).setCell (by simp; omega) _⟩
    simp [results, Try.results35, go_sem, k2_1]

set_option maxHeartbeats 4000000 in
theorem common_none2 (x0 y0 x1 y1 a0 b0 a1 b1 : Int) (w : World) (n1 : x0 < x1) (n2 : y0 < y1) (hE : a1 ≤ a0 ∨ b1 ≤ b0) :
    Calls Try.prog 35 #[.agg #[.int .i64 x0, .int .i64 y0, .int .i64 x1, .int .i64 y1], .agg #[.int .i64 a0, .int .i64 b0, .int .i64 a1, .int .i64 b1]] w fun e w' => e = .returned (.tuple #[.agg #[.int .i64 0, .int .i64 0, .int .i64 0, .int .i64 0], .bool false]) ∧ Below w.heap.size w w' := by
  have HE := Lib.hid hE
  clear hE
  go_enter Try.func35, Try.ntmps35
  go_wp2_with fail
  all_goals
    refine (empt_any x0 y0 x1 y1 false (by simp [Empt]; omega) _).mono ?_
    rintro e w1 ⟨rfl, hb1⟩
    have hz1 : w.heap.size + 3 < w1.heap.size := by have := hb1.size; simp at this; omega
    have hB1 : Below w.heap.size w w1 := (((((Below.refl _ _).alloc (Nat.le_refl _) _).alloc (by simp) _).alloc (by simp; omega) _).alloc (by simp; omega) _).trans (hb1.mono (by simp; omega))
    have k1_1 := fun o => (bcell hb1).1 (w.heap.size + 1) o (by simp)
    have k2_1 := fun o => (bcell hb1).1 (w.heap.size + 2) o (by simp)
    have k3_1 := fun o => (bcell hb1).1 (w.heap.size + 3) o (by simp)
    have f2_1 := fun o => (bcell hb1).2 (w.heap.size + 2) o (by simp)
    clear hb1
    go_wp2_with fail
    refine (empt_any a0 b0 a1 b1 true (by simpa [Empt] using HE.out) _).mono ?_
    rintro e w2 ⟨rfl, hb2⟩
    have hz2 : w.heap.size + 3 < w2.heap.size := by have := hb2.size; omega
    have hB2 : Below w.heap.size w w2 := hB1.trans (hb2.mono (by omega))
    have k1_2 := fun o => ((bcell hb2).1 (w.heap.size + 1) o (by omega)).trans (k1_1 o)
    have k2_2 := fun o => ((bcell hb2).1 (w.heap.size + 2) o (by omega)).trans (k2_1 o)
    have k3_2 := fun o => ((bcell hb2).1 (w.heap.size + 3) o (by omega)).trans (k3_1 o)
    have f2_2 := fun o => ((bcell hb2).2 (w.heap.size + 2) o (by omega)).trans (f2_1 o)
    clear k1_1 k2_1 k3_1 f2_1
    clear hb2
    go_wp2
    refine bodyPost_ret (v := .tuple #[.agg #[.int .i64 0, .int .i64 0, .int .i64 0, .int .i64 0], .bool false]) ?_ rfl ⟨rfl, (((hB2.setCell (by simp; omega) _).setCell (by simp; omega) _).setCell (by simp; omega) _).setCell (by simp; omega) _⟩
    simp [results, Try.results35, go_sem, k2_2]

set_option maxHeartbeats 4000000 in
theorem common_none3 (x0 y0 x1 y1 a0 b0 a1 b1 : Int) (w : World) (n1 : x0 < x1) (n2 : y0 < y1) (n3 : a0 < a1) (n4 : b0 < b1) (hE : min x1 a1 ≤ max x0 a0 ∨ min y1 b1 ≤ max y0 b0) :
    Calls Try.prog 35 #[.agg #[.int .i64 x0, .int .i64 y0, .int .i64 x1, .int .i64 y1], .agg #[.int .i64 a0, .int .i64 b0, .int .i64 a1, .int .i64 b1]] w fun e w' => e = .returned (.tuple #[.agg #[.int .i64 0, .int .i64 0, .int .i64 0, .int .i64 0], .bool false]) ∧ Below w.heap.size w w' := by
  have HE := Lib.hid hE
  clear hE
  go_enter Try.func35, Try.ntmps35
  go_wp2_with fail
  all_goals
    refine (empt_any x0 y0 x1 y1 false (by simp [Empt]; omega) _).mono ?_
    rintro e w1 ⟨rfl, hb1⟩
    have hz1 : w.heap.size + 3 < w1.heap.size := by have := hb1.size; simp at this; omega
    have hB1 : Below w.heap.size w w1 := (((((Below.refl _ _).alloc (Nat.le_refl _) _).alloc (by simp) _).alloc (by simp; omega) _).alloc (by simp; omega) _).trans (hb1.mono (by simp; omega))
    have k1_1 := fun o => (bcell hb1).1 (w.heap.size + 1) o (by simp)
    have k2_1 := fun o => (bcell hb1).1 (w.heap.size + 2) o (by simp)
    have k3_1 := fun o => (bcell hb1).1 (w.heap.size + 3) o (by simp)
    have f2_1 := fun o => (bcell hb1).2 (w.heap.size + 2) o (by simp)
    clear hb1
    go_wp2_with fail
    refine (empt_any a0 b0 a1 b1 false (by simp [Empt]; omega) _).mono ?_
    rintro e w2 ⟨rfl, hb2⟩
    have hz2 : w.heap.size + 3 < w2.heap.size := by have := hb2.size; omega
    have hB2 : Below w.heap.size w w2 := hB1.trans (hb2.mono (by omega))
    have k1_2 := fun o => ((bcell hb2).1 (w.heap.size + 1) o (by omega)).trans (k1_1 o)
    have k2_2 := fun o => ((bcell hb2).1 (w.heap.size + 2) o (by omega)).trans (k2_1 o)
    have k3_2 := fun o => ((bcell hb2).1 (w.heap.size + 3) o (by omega)).trans (k3_1 o)
    have f2_2 := fun o => ((bcell hb2).2 (w.heap.size + 2) o (by omega)).trans (f2_1 o)
    clear k1_1 k2_1 k3_1 f2_1
    clear hb2
    go_wp2_with fail
    refine (empt_any _ _ _ _ true (by have := HE.out; simp [Empt]; omega) _).mono ?_
    rintro e w3 ⟨rfl, hb3⟩
    have hz3 : w.heap.size + 3 < w3.heap.size := by have := hb3.size; omega
    have hB3 : Below w.heap.size w w3 := hB2.trans (hb3.mono (by omega))
    have k1_3 := fun o => ((bcell hb3).1 (w.heap.size + 1) o (by omega)).trans (k1_2 o)
    have k2_3 := fun o => ((bcell hb3).1 (w.heap.size + 2) o (by omega)).trans (k2_2 o)
    have k3_3 := fun o => ((bcell hb3).1 (w.heap.size + 3) o (by omega)).trans (k3_2 o)
    have f2_3 := fun o => ((bcell hb3).2 (w.heap.size + 2) o (by omega)).trans (f2_2 o)
    clear k1_2 k2_2 k3_2 f2_2
    clear hb3
    go_wp2
    refine bodyPost_ret (v := .tuple #[.agg #[.int .i64 0, .int .i64 0, .int .i64 0, .int .i64 0], .bool false]) ?_ rfl ⟨rfl, (((hB3.setCell (by simp; omega) _).setCell (by simp; omega) _).setCell (by simp; omega) _).setCell (by simp; omega) _⟩
    simp [results, Try.results35, go_sem, k2_3]

theorem common_none (x0 y0 x1 y1 a0 b0 a1 b1 : Int) (w : World) (hE : min x1 a1 ≤ max x0 a0 ∨ min y1 b1 ≤ max y0 b0) :
    Calls Try.prog 35 #[.agg #[.int .i64 x0, .int .i64 y0, .int .i64 x1, .int .i64 y1], .agg #[.int .i64 a0, .int .i64 b0, .int .i64 a1, .int .i64 b1]] w fun e w' => e = .returned (.tuple #[.agg #[.int .i64 0, .int .i64 0, .int .i64 0, .int .i64 0], .bool false]) ∧ Below w.heap.size w w' := by
  by_cases h1 : x1 ≤ x0 ∨ y1 ≤ y0
  · exact common_none1 x0 y0 x1 y1 a0 b0 a1 b1 w h1
  · by_cases h2 : a1 ≤ a0 ∨ b1 ≤ b0
    · exact common_none2 x0 y0 x1 y1 a0 b0 a1 b1 w (by omega) (by omega) h2
    · exact common_none3 x0 y0 x1 y1 a0 b0 a1 b1 w (by omega) (by omega) (by omega) (by omega) hE

end Go.Proofs.Ytkhgobeeaiagfaa
