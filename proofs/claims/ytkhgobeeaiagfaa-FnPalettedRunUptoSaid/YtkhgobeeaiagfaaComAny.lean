/- Common of the reference for every two rectangles; two steps in memory. -/
import Derived.Test.YtkhgobeeaiagfaaCommon
import Derived.Test.YtkhgobeeaiagfaaRunI
namespace Go.Proofs.Ytkhgobeeaiagfaa
open Go.RowKit
set_option linter.unusedVariables false

def ComOf (x0 y0 x1 y1 a0 b0 a1 b1 C0 C1 C2 C3 : Int) (cb : Bool) : Prop :=
  ((max x0 a0 < min x1 a1 ∧ max y0 b0 < min y1 b1) ∧ C0 = max x0 a0 ∧ C1 = max y0 b0 ∧ C2 = min x1 a1 ∧ C3 = min y1 b1 ∧ cb = true) ∨
  ((min x1 a1 ≤ max x0 a0 ∨ min y1 b1 ≤ max y0 b0) ∧ C0 = 0 ∧ C1 = 0 ∧ C2 = 0 ∧ C3 = 0 ∧ cb = false)
theorem common_any (x0 y0 x1 y1 a0 b0 a1 b1 C0 C1 C2 C3 : Int) (cb : Bool) (h : ComOf x0 y0 x1 y1 a0 b0 a1 b1 C0 C1 C2 C3 cb) (w : World) :
    Calls Try.prog 35 #[.agg #[.int .i64 x0, .int .i64 y0, .int .i64 x1, .int .i64 y1], .agg #[.int .i64 a0, .int .i64 b0, .int .i64 a1, .int .i64 b1]] w fun e w' => e = .returned (.tuple #[.agg #[.int .i64 C0, .int .i64 C1, .int .i64 C2, .int .i64 C3], .bool cb]) ∧ Below w.heap.size w w' := by
  rcases h with ⟨⟨h1, h2⟩, rfl, rfl, rfl, rfl, rfl⟩ | ⟨h1, rfl, rfl, rfl, rfl, rfl⟩
  · exact common_some x0 y0 x1 y1 a0 b0 a1 b1 w (by omega) (by omega) (by omega) (by omega) h1 h2
  · exact common_none x0 y0 x1 y1 a0 b0 a1 b1 w h1
theorem com_of (x0 y0 x1 y1 a0 b0 a1 b1 : Int) : ∃ (C0 C1 C2 C3 : Int) (cb : Bool), ComOf x0 y0 x1 y1 a0 b0 a1 b1 C0 C1 C2 C3 cb := by
  by_cases h : max x0 a0 < min x1 a1 ∧ max y0 b0 < min y1 b1
  · exact ⟨_, _, _, _, _, Or.inl ⟨h, rfl, rfl, rfl, rfl, rfl⟩⟩
  · exact ⟨_, _, _, _, _, Or.inr ⟨by omega, rfl, rfl, rfl, rfl, rfl⟩⟩

end Go.Proofs.Ytkhgobeeaiagfaa
