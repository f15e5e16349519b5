/- impl.Gray16Sub for every rectangle. -/
import Derived.Test.YtmhmahdojcajpaaISub
import Derived.Test.YtmhmahdojcajpaaPlainSS
import Derived.Test.YtmhmahdojcajpaaWOffset
namespace Go.Proofs.Ytmhmahdojcajpaa
open Go.RowKit
set_option linter.unusedVariables false

/-- What impl.Gray16Sub hands back. -/
def SubAnyBack (x0 y0 x1 y1 s : Int) (zs : List Int) (a0 b0 a1 b1 : Int) (w : World) (e : Ending) (w' : World) : Prop :=
  ∃ (X0 Y0 X1 Y1 S : Int) (A : Option Addr) (c : Nat) (zm : List Int), SubOf x0 y0 x1 y1 s zs a0 b0 a1 b1 X0 Y0 X1 Y1 S zm ∧ e = .returned (.tuple #[.agg #[.int .i64 X0, .int .i64 Y0, .int .i64 X1, .int .i64 Y1, .int .i64 S, .slice A zm.length c], .bool true]) ∧
    w'.ownsRow w.heap.size 5 1 (.slice A zm.length c) zm.length (zm.map (Value.int .u8)) ∧ Below w.heap.size w w'
theorem implSub_any (x0 y0 x1 y1 s : Int) (A : Option Addr) (c : Nat) (zs : List Int) (a0 b0 a1 b1 : Int) (w : World) (hr : Hid (Reads w A zs)) (hl : Small zs) (hn : Hid (A = none → c = 0)) (hF : Hid (Fits x0 y0 x1 y1 s 2 zs.length)) :
    Calls Try.prog 34 #[.agg #[.int .i64 x0, .int .i64 y0, .int .i64 x1, .int .i64 y1, .int .i64 s, .slice A zs.length c], .agg #[.int .i64 a0, .int .i64 b0, .int .i64 a1, .int .i64 b1]] w (SubAnyBack x0 y0 x1 y1 s zs a0 b0 a1 b1 w) := by
  by_cases hE : min x1 a1 ≤ max x0 a0 ∨ min y1 b1 ≤ max y0 b0
  · refine (implSub_none x0 y0 x1 y1 s a0 b0 a1 b1 A c zs w hr hl hn hE).mono ?_
    rintro e w1 ⟨A', c', rfl, hown, hb⟩
    exact ⟨0, 0, 0, 0, 0, A', c', [], Or.inl ⟨hE, rfl, rfl, rfl, rfl, rfl, rfl⟩, rfl, hown, hb⟩
  · obtain ⟨n5, n6⟩ : max x0 a0 < min x1 a1 ∧ max y0 b0 < min y1 b1 := by omega
    have hI0 : Insd x0 y0 x1 y1 (max x0 a0) (max y0 b0) := (within_of x0 y0 x1 y1 a0 b0 a1 b1).insd ⟨Int.le_refl _, n5, Int.le_refl _, n6⟩
    obtain ⟨q1, q2, q3, q4⟩ := near_point hF.out hI0
    obtain ⟨p1, p2⟩ : -2305843009213693952 ≤ (max y0 b0 - y0) * s ∧ (max y0 b0 - y0) * s ≤ 2305843009213693952 := (by have := hF.out.prods hI0; omega)
    obtain ⟨k, hK, hk⟩ := hF.out.place (z := 2) rfl hI0
    refine (implSub_some x0 y0 x1 y1 s a0 b0 a1 b1 _ _ _ _ A c k zs w hr hl hn rfl rfl rfl rfl n5 n6 hK (show Hid _ from (by unfold Hid; omega)) q1 q2 q3 q4 p1 p2).mono ?_
    rintro e w1 ⟨A', c', rfl, hown, hb⟩
    exact ⟨_, _, _, _, s, A', c', zs.drop k, Or.inr ⟨⟨n5, n6⟩, rfl, rfl, rfl, rfl, rfl, k, hK, hk, rfl⟩, rfl, hown, hb⟩

end Go.Proofs.Ytmhmahdojcajpaa
