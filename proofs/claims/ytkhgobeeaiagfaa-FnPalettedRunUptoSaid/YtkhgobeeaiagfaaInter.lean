/- Contracts: Intersect of rectangles. -/
import Derived.Test.YtkhgobeeaiagfaaCommon
namespace Go.Proofs.Ytkhgobeeaiagfaa
open Go.RowKit
set_option linter.unusedVariables false

set_option maxHeartbeats 4000000 in
theorem inter_some (x0 y0 x1 y1 a0 b0 a1 b1 : Int) (w : World) (n5 : max x0 a0 < min x1 a1) (n6 : max y0 b0 < min y1 b1) :
    Calls Try.prog 61 #[.agg #[.int .i64 a0, .int .i64 b0, .int .i64 a1, .int .i64 b1], .agg #[.int .i64 x0, .int .i64 y0, .int .i64 x1, .int .i64 y1]] w fun e w' => e = .returned (.agg #[.int .i64 (max x0 a0), .int .i64 (max y0 b0), .int .i64 (min x1 a1), .int .i64 (min y1 b1)]) ∧ Below w.heap.size w w' := by
  go_enter Try.func61, Try.ntmps61
  go_wp2_with fail
  all_goals
    refine (rempt_any _ _ _ _ false (by simp [Empt]; omega) _).mono ?_
    rintro e w1 ⟨rfl, hb1⟩
    have hB1 : Below w.heap.size w w1 := ((((Below.refl _ _).alloc (Nat.le_refl _) _).alloc (by simp) _).alloc (by simp; omega) _).trans (hb1.mono (by simp; omega))
    have k0 := fun o => (bcell hb1).1 w.heap.size o (by simp; omega)
    have k2 := fun o => (bcell hb1).1 (w.heap.size + 2) o (by simp)
    have f2 := fun o => (bcell hb1).2 (w.heap.size + 2) o (by simp)
    clear hb1
    go_wp2
    refine bodyPost_ret (v := .agg #[.int .i64 (max x0 a0), .int .i64 (max y0 b0), .int .i64 (min x1 a1), .int .i64 (min y1 b1)]) ?_ rfl ⟨rfl, (((hB1.setCell (by simp; omega) _).setCell (by simp; omega) _).setCell (by simp; omega) _).setCell (by simp; omega) _⟩
    simp [results, Try.results61, go_sem, k2]
    omega

set_option maxHeartbeats 4000000 in
theorem inter_none (x0 y0 x1 y1 a0 b0 a1 b1 : Int) (w : World) (hE : min x1 a1 ≤ max x0 a0 ∨ min y1 b1 ≤ max y0 b0) :
    Calls Try.prog 61 #[.agg #[.int .i64 a0, .int .i64 b0, .int .i64 a1, .int .i64 b1], .agg #[.int .i64 x0, .int .i64 y0, .int .i64 x1, .int .i64 y1]] w fun e w' => e = .returned (.agg #[.int .i64 0, .int .i64 0, .int .i64 0, .int .i64 0]) ∧ Below w.heap.size w w' := by
  have HE := Lib.hid hE
  clear hE
  go_enter Try.func61, Try.ntmps61
  go_wp2_with fail
  all_goals
    refine (rempt_any _ _ _ _ true (by have := HE.out; simp [Empt]; omega) _).mono ?_
    rintro e w1 ⟨rfl, hb1⟩
    have hB1 : Below w.heap.size w w1 := ((((Below.refl _ _).alloc (Nat.le_refl _) _).alloc (by simp) _).alloc (by simp; omega) _).trans (hb1.mono (by simp; omega))
    have k0 := fun o => (bcell hb1).1 w.heap.size o (by simp; omega)
    have k2 := fun o => (bcell hb1).1 (w.heap.size + 2) o (by simp)
    have f2 := fun o => (bcell hb1).2 (w.heap.size + 2) o (by simp)
    clear hb1
    go_wp2
    refine bodyPost_ret (v := .agg #[.int .i64 0, .int .i64 0, .int .i64 0, .int .i64 0]) ?_ rfl ⟨rfl, (((hB1.setCell (by simp; omega) _).setCell (by simp; omega) _).setCell (by simp; omega) _).setCell (by simp; omega) _⟩
    simp [results, Try.results61, go_sem, k2]

end Go.Proofs.Ytkhgobeeaiagfaa
