/- Films: where the samples of a pixel are. -/
import Derived.Test.YtcomldkihibfjaaFilm
namespace Go.Proofs.Ytcomldkihibfjaa
open Go.RowKit
set_option linter.unusedVariables false
set_option linter.unusedSimpArgs false

set_option maxRecDepth 100000 in
set_option maxHeartbeats 1000000 in
theorem yOffset_any (g : Nat) (x0 y0 x1 y1 rt ys cs at4 : Int) (A1 A2 A3 A4 : Option Addr) (c1 c2 c3 c4 : Nat) (z1 z2 z3 z4 : List Int) (x y : Int) (w : World) (hg : w.heap[g]? = some (.cells #[.slice A1 z1.length c1, .slice A2 z2.length c2, .slice A3 z3.length c3, .int .i64 ys, .int .i64 cs, .int .i64 rt, .int .i64 x0, .int .i64 y0, .int .i64 x1, .int .i64 y1, .slice A4 z4.length c4, .int .i64 at4] 83 (0, 0))) (b1 : -4398046511104 ≤ y - y0) (b2 : y - y0 ≤ 4398046511104) (b3 : -4398046511104 ≤ x - x0) (b4 : x - x0 ≤ 4398046511104) (p1 : -2305843009213693952 ≤ (y - y0) * ys) (p2 : (y - y0) * ys ≤ 2305843009213693952) :
    Calls Try.prog 51 #[.pointer (some ⟨g, 0, none⟩), .int .i64 x, .int .i64 y] w fun e w' => e = .returned (.int .i64 ((y - y0) * ys + (x - x0))) ∧ ∃ n, w' = w.drewN n := by
  have g0 := cell_of_row w g 0 _ _ _ hg
  have g1 := cell_of_row w g 1 _ _ _ hg
  have g2 := cell_of_row w g 2 _ _ _ hg
  have g3 := cell_of_row w g 3 _ _ _ hg
  have g4 := cell_of_row w g 4 _ _ _ hg
  have g5 := cell_of_row w g 5 _ _ _ hg
  have g6 := cell_of_row w g 6 _ _ _ hg
  have g7 := cell_of_row w g 7 _ _ _ hg
  have g8 := cell_of_row w g 8 _ _ _ hg
  have g9 := cell_of_row w g 9 _ _ _ hg
  have g10 := cell_of_row w g 10 _ _ _ hg
  have g11 := cell_of_row w g 11 _ _ _ hg
  simp at g0 g1 g2 g3 g4 g5 g6 g7 g8 g9 g10 g11
  clear hg
  go_enter Try.func51, Try.ntmps51
  go_wp2
  go_quiet (fail)
  go_wp2
  go_ret
  exact ⟨by first | (simp; done) | (simp; omega), _, rfl⟩
set_option maxRecDepth 100000 in
set_option maxHeartbeats 1000000 in
theorem aOffset_any (g : Nat) (x0 y0 x1 y1 rt ys cs at4 : Int) (A1 A2 A3 A4 : Option Addr) (c1 c2 c3 c4 : Nat) (z1 z2 z3 z4 : List Int) (x y : Int) (w : World) (hg : w.heap[g]? = some (.cells #[.slice A1 z1.length c1, .slice A2 z2.length c2, .slice A3 z3.length c3, .int .i64 ys, .int .i64 cs, .int .i64 rt, .int .i64 x0, .int .i64 y0, .int .i64 x1, .int .i64 y1, .slice A4 z4.length c4, .int .i64 at4] 83 (0, 0))) (b1 : -4398046511104 ≤ y - y0) (b2 : y - y0 ≤ 4398046511104) (b3 : -4398046511104 ≤ x - x0) (b4 : x - x0 ≤ 4398046511104) (p1 : -2305843009213693952 ≤ (y - y0) * at4) (p2 : (y - y0) * at4 ≤ 2305843009213693952) :
    Calls Try.prog 53 #[.pointer (some ⟨g, 0, none⟩), .int .i64 x, .int .i64 y] w fun e w' => e = .returned (.int .i64 ((y - y0) * at4 + (x - x0))) ∧ ∃ n, w' = w.drewN n := by
  have g0 := cell_of_row w g 0 _ _ _ hg
  have g1 := cell_of_row w g 1 _ _ _ hg
  have g2 := cell_of_row w g 2 _ _ _ hg
  have g3 := cell_of_row w g 3 _ _ _ hg
  have g4 := cell_of_row w g 4 _ _ _ hg
  have g5 := cell_of_row w g 5 _ _ _ hg
  have g6 := cell_of_row w g 6 _ _ _ hg
  have g7 := cell_of_row w g 7 _ _ _ hg
  have g8 := cell_of_row w g 8 _ _ _ hg
  have g9 := cell_of_row w g 9 _ _ _ hg
  have g10 := cell_of_row w g 10 _ _ _ hg
  have g11 := cell_of_row w g 11 _ _ _ hg
  simp at g0 g1 g2 g3 g4 g5 g6 g7 g8 g9 g10 g11
  clear hg
  go_enter Try.func53, Try.ntmps53
  go_wp2
  go_quiet (fail)
  go_wp2
  go_ret
  exact ⟨by first | (simp; done) | (simp; omega), _, rfl⟩
set_option maxRecDepth 100000 in
set_option maxHeartbeats 1000000 in
theorem cOffset_0 (g : Nat) (x0 y0 x1 y1 ys cs at4 : Int) (A1 A2 A3 A4 : Option Addr) (c1 c2 c3 c4 : Nat) (z1 z2 z3 z4 : List Int) (x y : Int) (w : World) (hg : w.heap[g]? = some (.cells #[.slice A1 z1.length c1, .slice A2 z2.length c2, .slice A3 z3.length c3, .int .i64 ys, .int .i64 cs, .int .i64 0, .int .i64 x0, .int .i64 y0, .int .i64 x1, .int .i64 y1, .slice A4 z4.length c4, .int .i64 at4] 83 (0, 0))) (b1 : -4398046511104 ≤ y - y0) (b2 : y - y0 ≤ 4398046511104) (b3 : -4398046511104 ≤ x - x0) (b4 : x - x0 ≤ 4398046511104) (p1 : -2305843009213693952 ≤ (y - y0) * cs) (p2 : (y - y0) * cs ≤ 2305843009213693952) :
    Calls Try.prog 52 #[.pointer (some ⟨g, 0, none⟩), .int .i64 x, .int .i64 y] w fun e w' => e = .returned (.int .i64 ((y - y0) * cs + (x - x0))) ∧ ∃ n, w' = w.drewN n := by
  have g0 := cell_of_row w g 0 _ _ _ hg
  have g1 := cell_of_row w g 1 _ _ _ hg
  have g2 := cell_of_row w g 2 _ _ _ hg
  have g3 := cell_of_row w g 3 _ _ _ hg
  have g4 := cell_of_row w g 4 _ _ _ hg
  have g5 := cell_of_row w g 5 _ _ _ hg
  have g6 := cell_of_row w g 6 _ _ _ hg
  have g7 := cell_of_row w g 7 _ _ _ hg
  have g8 := cell_of_row w g 8 _ _ _ hg
  have g9 := cell_of_row w g 9 _ _ _ hg
  have g10 := cell_of_row w g 10 _ _ _ hg
  have g11 := cell_of_row w g 11 _ _ _ hg
  simp at g0 g1 g2 g3 g4 g5 g6 g7 g8 g9 g10 g11
  clear hg
  go_enter Try.func52, Try.ntmps52
  go_wp2
  go_quiet (fail)
  go_wp2
  go_ret
  exact ⟨by first | (simp; done) | (simp; omega), _, rfl⟩
set_option maxRecDepth 100000 in
set_option maxHeartbeats 1000000 in
theorem cOffset_1 (g : Nat) (x0 y0 x1 y1 ys cs at4 : Int) (A1 A2 A3 A4 : Option Addr) (c1 c2 c3 c4 : Nat) (z1 z2 z3 z4 : List Int) (x y : Int) (w : World) (hg : w.heap[g]? = some (.cells #[.slice A1 z1.length c1, .slice A2 z2.length c2, .slice A3 z3.length c3, .int .i64 ys, .int .i64 cs, .int .i64 1, .int .i64 x0, .int .i64 y0, .int .i64 x1, .int .i64 y1, .slice A4 z4.length c4, .int .i64 at4] 83 (0, 0))) (n1 : 0 ≤ x0) (n2 : 0 ≤ y0) (n3 : 0 ≤ x) (n4 : 0 ≤ y) (n5 : x0 ≤ 1099511627776) (n6 : y0 ≤ 1099511627776) (n7 : x ≤ 1099511627776) (n8 : y ≤ 1099511627776) (p1 : -2305843009213693952 ≤ (y - y0) * cs) (p2 : (y - y0) * cs ≤ 2305843009213693952) :
    Calls Try.prog 52 #[.pointer (some ⟨g, 0, none⟩), .int .i64 x, .int .i64 y] w fun e w' => e = .returned (.int .i64 ((y - y0) * cs + (x / 2 - x0 / 2))) ∧ ∃ n, w' = w.drewN n := by
  have g0 := cell_of_row w g 0 _ _ _ hg
  have g1 := cell_of_row w g 1 _ _ _ hg
  have g2 := cell_of_row w g 2 _ _ _ hg
  have g3 := cell_of_row w g 3 _ _ _ hg
  have g4 := cell_of_row w g 4 _ _ _ hg
  have g5 := cell_of_row w g 5 _ _ _ hg
  have g6 := cell_of_row w g 6 _ _ _ hg
  have g7 := cell_of_row w g 7 _ _ _ hg
  have g8 := cell_of_row w g 8 _ _ _ hg
  have g9 := cell_of_row w g 9 _ _ _ hg
  have g10 := cell_of_row w g 10 _ _ _ hg
  have g11 := cell_of_row w g 11 _ _ _ hg
  simp at g0 g1 g2 g3 g4 g5 g6 g7 g8 g9 g10 g11
  clear hg
  go_enter Try.func52, Try.ntmps52
  go_wp2
  go_quiet (fail)
  go_wp2
  go_ret
  exact ⟨by first | (simp; done) | (simp; omega), _, rfl⟩
set_option maxRecDepth 100000 in
set_option maxHeartbeats 1000000 in
theorem cOffset_2 (g : Nat) (x0 y0 x1 y1 ys cs at4 : Int) (A1 A2 A3 A4 : Option Addr) (c1 c2 c3 c4 : Nat) (z1 z2 z3 z4 : List Int) (x y : Int) (w : World) (hg : w.heap[g]? = some (.cells #[.slice A1 z1.length c1, .slice A2 z2.length c2, .slice A3 z3.length c3, .int .i64 ys, .int .i64 cs, .int .i64 2, .int .i64 x0, .int .i64 y0, .int .i64 x1, .int .i64 y1, .slice A4 z4.length c4, .int .i64 at4] 83 (0, 0))) (n1 : 0 ≤ x0) (n2 : 0 ≤ y0) (n3 : 0 ≤ x) (n4 : 0 ≤ y) (n5 : x0 ≤ 1099511627776) (n6 : y0 ≤ 1099511627776) (n7 : x ≤ 1099511627776) (n8 : y ≤ 1099511627776) (p1 : -2305843009213693952 ≤ (y / 2 - y0 / 2) * cs) (p2 : (y / 2 - y0 / 2) * cs ≤ 2305843009213693952) :
    Calls Try.prog 52 #[.pointer (some ⟨g, 0, none⟩), .int .i64 x, .int .i64 y] w fun e w' => e = .returned (.int .i64 ((y / 2 - y0 / 2) * cs + (x / 2 - x0 / 2))) ∧ ∃ n, w' = w.drewN n := by
  have g0 := cell_of_row w g 0 _ _ _ hg
  have g1 := cell_of_row w g 1 _ _ _ hg
  have g2 := cell_of_row w g 2 _ _ _ hg
  have g3 := cell_of_row w g 3 _ _ _ hg
  have g4 := cell_of_row w g 4 _ _ _ hg
  have g5 := cell_of_row w g 5 _ _ _ hg
  have g6 := cell_of_row w g 6 _ _ _ hg
  have g7 := cell_of_row w g 7 _ _ _ hg
  have g8 := cell_of_row w g 8 _ _ _ hg
  have g9 := cell_of_row w g 9 _ _ _ hg
  have g10 := cell_of_row w g 10 _ _ _ hg
  have g11 := cell_of_row w g 11 _ _ _ hg
  simp at g0 g1 g2 g3 g4 g5 g6 g7 g8 g9 g10 g11
  clear hg
  go_enter Try.func52, Try.ntmps52
  go_wp2
  go_quiet (fail)
  go_wp2
  go_ret
  exact ⟨by first | (simp; done) | (simp; omega), _, rfl⟩
set_option maxRecDepth 100000 in
set_option maxHeartbeats 1000000 in
theorem cOffset_3 (g : Nat) (x0 y0 x1 y1 ys cs at4 : Int) (A1 A2 A3 A4 : Option Addr) (c1 c2 c3 c4 : Nat) (z1 z2 z3 z4 : List Int) (x y : Int) (w : World) (hg : w.heap[g]? = some (.cells #[.slice A1 z1.length c1, .slice A2 z2.length c2, .slice A3 z3.length c3, .int .i64 ys, .int .i64 cs, .int .i64 3, .int .i64 x0, .int .i64 y0, .int .i64 x1, .int .i64 y1, .slice A4 z4.length c4, .int .i64 at4] 83 (0, 0))) (n1 : 0 ≤ x0) (n2 : 0 ≤ y0) (n3 : 0 ≤ x) (n4 : 0 ≤ y) (n5 : x0 ≤ 1099511627776) (n6 : y0 ≤ 1099511627776) (n7 : x ≤ 1099511627776) (n8 : y ≤ 1099511627776) (p1 : -2305843009213693952 ≤ (y / 2 - y0 / 2) * cs) (p2 : (y / 2 - y0 / 2) * cs ≤ 2305843009213693952) :
    Calls Try.prog 52 #[.pointer (some ⟨g, 0, none⟩), .int .i64 x, .int .i64 y] w fun e w' => e = .returned (.int .i64 ((y / 2 - y0 / 2) * cs + (x - x0))) ∧ ∃ n, w' = w.drewN n := by
  have g0 := cell_of_row w g 0 _ _ _ hg
  have g1 := cell_of_row w g 1 _ _ _ hg
  have g2 := cell_of_row w g 2 _ _ _ hg
  have g3 := cell_of_row w g 3 _ _ _ hg
  have g4 := cell_of_row w g 4 _ _ _ hg
  have g5 := cell_of_row w g 5 _ _ _ hg
  have g6 := cell_of_row w g 6 _ _ _ hg
  have g7 := cell_of_row w g 7 _ _ _ hg
  have g8 := cell_of_row w g 8 _ _ _ hg
  have g9 := cell_of_row w g 9 _ _ _ hg
  have g10 := cell_of_row w g 10 _ _ _ hg
  have g11 := cell_of_row w g 11 _ _ _ hg
  simp at g0 g1 g2 g3 g4 g5 g6 g7 g8 g9 g10 g11
  clear hg
  go_enter Try.func52, Try.ntmps52
  go_wp2
  go_quiet (fail)
  go_wp2
  go_ret
  exact ⟨by first | (simp; done) | (simp; omega), _, rfl⟩
set_option maxRecDepth 100000 in
set_option maxHeartbeats 1000000 in
theorem cOffset_4 (g : Nat) (x0 y0 x1 y1 ys cs at4 : Int) (A1 A2 A3 A4 : Option Addr) (c1 c2 c3 c4 : Nat) (z1 z2 z3 z4 : List Int) (x y : Int) (w : World) (hg : w.heap[g]? = some (.cells #[.slice A1 z1.length c1, .slice A2 z2.length c2, .slice A3 z3.length c3, .int .i64 ys, .int .i64 cs, .int .i64 4, .int .i64 x0, .int .i64 y0, .int .i64 x1, .int .i64 y1, .slice A4 z4.length c4, .int .i64 at4] 83 (0, 0))) (n1 : 0 ≤ x0) (n2 : 0 ≤ y0) (n3 : 0 ≤ x) (n4 : 0 ≤ y) (n5 : x0 ≤ 1099511627776) (n6 : y0 ≤ 1099511627776) (n7 : x ≤ 1099511627776) (n8 : y ≤ 1099511627776) (p1 : -2305843009213693952 ≤ (y - y0) * cs) (p2 : (y - y0) * cs ≤ 2305843009213693952) :
    Calls Try.prog 52 #[.pointer (some ⟨g, 0, none⟩), .int .i64 x, .int .i64 y] w fun e w' => e = .returned (.int .i64 ((y - y0) * cs + (x / 4 - x0 / 4))) ∧ ∃ n, w' = w.drewN n := by
  have g0 := cell_of_row w g 0 _ _ _ hg
  have g1 := cell_of_row w g 1 _ _ _ hg
  have g2 := cell_of_row w g 2 _ _ _ hg
  have g3 := cell_of_row w g 3 _ _ _ hg
  have g4 := cell_of_row w g 4 _ _ _ hg
  have g5 := cell_of_row w g 5 _ _ _ hg
  have g6 := cell_of_row w g 6 _ _ _ hg
  have g7 := cell_of_row w g 7 _ _ _ hg
  have g8 := cell_of_row w g 8 _ _ _ hg
  have g9 := cell_of_row w g 9 _ _ _ hg
  have g10 := cell_of_row w g 10 _ _ _ hg
  have g11 := cell_of_row w g 11 _ _ _ hg
  simp at g0 g1 g2 g3 g4 g5 g6 g7 g8 g9 g10 g11
  clear hg
  go_enter Try.func52, Try.ntmps52
  go_wp2
  go_quiet (fail)
  go_wp2
  go_ret
  exact ⟨by first | (simp; done) | (simp; omega), _, rfl⟩
set_option maxRecDepth 100000 in
set_option maxHeartbeats 1000000 in
theorem cOffset_5 (g : Nat) (x0 y0 x1 y1 ys cs at4 : Int) (A1 A2 A3 A4 : Option Addr) (c1 c2 c3 c4 : Nat) (z1 z2 z3 z4 : List Int) (x y : Int) (w : World) (hg : w.heap[g]? = some (.cells #[.slice A1 z1.length c1, .slice A2 z2.length c2, .slice A3 z3.length c3, .int .i64 ys, .int .i64 cs, .int .i64 5, .int .i64 x0, .int .i64 y0, .int .i64 x1, .int .i64 y1, .slice A4 z4.length c4, .int .i64 at4] 83 (0, 0))) (n1 : 0 ≤ x0) (n2 : 0 ≤ y0) (n3 : 0 ≤ x) (n4 : 0 ≤ y) (n5 : x0 ≤ 1099511627776) (n6 : y0 ≤ 1099511627776) (n7 : x ≤ 1099511627776) (n8 : y ≤ 1099511627776) (p1 : -2305843009213693952 ≤ (y / 2 - y0 / 2) * cs) (p2 : (y / 2 - y0 / 2) * cs ≤ 2305843009213693952) :
    Calls Try.prog 52 #[.pointer (some ⟨g, 0, none⟩), .int .i64 x, .int .i64 y] w fun e w' => e = .returned (.int .i64 ((y / 2 - y0 / 2) * cs + (x / 4 - x0 / 4))) ∧ ∃ n, w' = w.drewN n := by
  have g0 := cell_of_row w g 0 _ _ _ hg
  have g1 := cell_of_row w g 1 _ _ _ hg
  have g2 := cell_of_row w g 2 _ _ _ hg
  have g3 := cell_of_row w g 3 _ _ _ hg
  have g4 := cell_of_row w g 4 _ _ _ hg
  have g5 := cell_of_row w g 5 _ _ _ hg
  have g6 := cell_of_row w g 6 _ _ _ hg
  have g7 := cell_of_row w g 7 _ _ _ hg
  have g8 := cell_of_row w g 8 _ _ _ hg
  have g9 := cell_of_row w g 9 _ _ _ hg
  have g10 := cell_of_row w g 10 _ _ _ hg
  have g11 := cell_of_row w g 11 _ _ _ hg
  simp at g0 g1 g2 g3 g4 g5 g6 g7 g8 g9 g10 g11
  clear hg
  go_enter Try.func52, Try.ntmps52
  go_wp2
  go_quiet (fail)
  go_wp2
  go_ret
  exact ⟨by first | (simp; done) | (simp; omega), _, rfl⟩

end Go.Proofs.Ytcomldkihibfjaa
