/- Contracts: PixOffset, Point.In; of the laws' fitsGray16 and atGray16; of impl.Gray16Offset. -/
import Derived.Test.YtmhmahdojcajpaaImg
namespace Go.Proofs.Ytmhmahdojcajpaa
open Go.RowKit
set_option linter.unusedVariables false

theorem pixOffset_any (g : Nat) (A : Option Addr) (c : Nat) (zs : List Int) (s x0 y0 x1 y1 x y : Int) (w : World) (hg : w.heap[g]? = some (.cells #[.slice A zs.length c, .int .i64 s, .int .i64 x0, .int .i64 y0, .int .i64 x1, .int .i64 y1] 99 (0, 0)))
    (b1 : -4398046511104 ≤ y - y0) (b2 : y - y0 ≤ 4398046511104) (b3 : -4398046511104 ≤ x - x0) (b4 : x - x0 ≤ 4398046511104)
    (p1 : -2305843009213693952 ≤ (y - y0) * s) (p2 : (y - y0) * s ≤ 2305843009213693952) :
    Calls Try.prog 45 #[.pointer (some ⟨g, 0, none⟩), .int .i64 x, .int .i64 y] w fun e w' => e = .returned (.int .i64 ((y - y0) * s + (x - x0) * 2)) ∧ ∃ n, w' = w.drewN n := by
  have g0 := cell_of_row w g 0 _ _ _ hg
  have g1 := cell_of_row w g 1 _ _ _ hg
  have g2 := cell_of_row w g 2 _ _ _ hg
  have g3 := cell_of_row w g 3 _ _ _ hg
  have g4 := cell_of_row w g 4 _ _ _ hg
  have g5 := cell_of_row w g 5 _ _ _ hg
  simp at g0 g1 g2 g3 g4 g5
  clear hg g0 g4 g5
  go_enter Try.func45, Try.ntmps45
  go_wp2
  go_quiet (fail)
  go_wp2
  go_ret
  exact ⟨by simp, _, rfl⟩

theorem in_any (x0 y0 x1 y1 x y : Int) (b : Bool) (hb : b = true ↔ Insd x0 y0 x1 y1 x y) (w : World) :
    Calls Try.prog 59 #[.agg #[.int .i64 x, .int .i64 y], .agg #[.int .i64 x0, .int .i64 y0, .int .i64 x1, .int .i64 y1]] w fun e w' => e = .returned (.bool b) ∧ Below w.heap.size w w' := by
  by_cases h : Insd x0 y0 x1 y1 x y
  · obtain rfl : b = true := hb.2 h
    clear hb
    obtain ⟨_, _, _, _⟩ := h
    go_enter Try.func59, Try.ntmps59
    go_wp2
    go_ret
    exact ⟨by first | (simp; done) | (simp; omega), ((Below.refl _ _).alloc (Nat.le_refl _) _).alloc (by simp) _⟩
  · obtain rfl : b = false := by cases b with | false => rfl | true => exact absurd (hb.1 rfl) h
    clear hb
    have h' : x < x0 ∨ (x0 ≤ x ∧ x1 ≤ x) ∨ (x0 ≤ x ∧ x < x1 ∧ y < y0) ∨ (x0 ≤ x ∧ x < x1 ∧ y0 ≤ y ∧ y1 ≤ y) := by unfold Insd at h; omega
    clear h
    rcases h' with h | ⟨_, h⟩ | ⟨_, _, h⟩ | ⟨_, _, _, h⟩
    all_goals
      go_enter Try.func59, Try.ntmps59
      go_wp2
      go_ret
      exact ⟨by first | (simp; done) | (simp; omega), ((Below.refl _ _).alloc (Nat.le_refl _) _).alloc (by simp) _⟩

theorem fitsK_any (x0 y0 x1 y1 s : Int) (A : Option Addr) (c : Nat) (zs : List Int) (b : Bool) (hb : b = true ↔ Fits x0 y0 x1 y1 s 2 zs.length) (w : World) :
    Calls Try.prog 16 #[.agg #[.int .i64 x0, .int .i64 y0, .int .i64 x1, .int .i64 y1, .int .i64 s, .slice A zs.length c]] w fun e w' => e = .returned (.bool b) ∧ Below w.heap.size w w' := by
  have HB := Lib.hid hb
  clear hb
  go_enter Try.func16, Try.ntmps16
  go_wp2
  go_region_held3 (fun w' => w.heap.size < w'.heap.size ∧ Below w.heap.size w w' ∧ w'.cell? ⟨w.heap.size, 0, none⟩ = some (.int .i64 x0) ∧ w'.cell? ⟨w.heap.size, 1, none⟩ = some (.int .i64 y0) ∧ w'.cell? ⟨w.heap.size, 2, none⟩ = some (.int .i64 x1) ∧ w'.cell? ⟨w.heap.size, 3, none⟩ = some (.int .i64 y1) ∧ w'.cell? ⟨w.heap.size, 4, none⟩ = some (.int .i64 s) ∧ w'.cell? ⟨w.heap.size, 5, none⟩ = some (.slice A zs.length c))
    (first | exact keepD6 (start6 _ _ _ _ _ _ _ _) | exact keep6 (by assumption) (by assumption))
    (first | (go_at_call 21; refine (box_any x0 y0 x1 y1 _).mono ?_; rintro e w1 ⟨rfl, hb1⟩) | (go_at_call 43; refine (fits_any x0 y0 x1 y1 s _ b HB.out _).mono ?_; rintro e w2 ⟨rfl, hb2⟩))
  rename_i hS
  go_wp2
  go_ret
  exact ⟨by simp, hS.2.1⟩

theorem atK_any (x0 y0 x1 y1 s x y : Int) (A : Option Addr) (c : Nat) (zs : List Int) (w : World)
    (b1 : -4398046511104 ≤ y - y0) (b2 : y - y0 ≤ 4398046511104) (b3 : -4398046511104 ≤ x - x0) (b4 : x - x0 ≤ 4398046511104)
    (p1 : -2305843009213693952 ≤ (y - y0) * s) (p2 : (y - y0) * s ≤ 2305843009213693952) :
    Calls Try.prog 19 #[.agg #[.int .i64 x0, .int .i64 y0, .int .i64 x1, .int .i64 y1, .int .i64 s, .slice A zs.length c], .int .i64 x, .int .i64 y] w fun e w' => e = .returned (.int .i64 ((y - y0) * s + (x - x0) * 2)) ∧ Below w.heap.size w w' := by
  go_enter Try.func19, Try.ntmps19
  go_wp2
  go_region_held3 (fun w' => w.heap.size < w'.heap.size ∧ Below w.heap.size w w' ∧ w'.cell? ⟨w.heap.size, 0, none⟩ = some (.int .i64 x0) ∧ w'.cell? ⟨w.heap.size, 1, none⟩ = some (.int .i64 y0) ∧ w'.cell? ⟨w.heap.size, 2, none⟩ = some (.int .i64 x1) ∧ w'.cell? ⟨w.heap.size, 3, none⟩ = some (.int .i64 y1) ∧ w'.cell? ⟨w.heap.size, 4, none⟩ = some (.int .i64 s) ∧ w'.cell? ⟨w.heap.size, 5, none⟩ = some (.slice A zs.length c))
    (first | exact keepD6 (start6 _ _ _ _ _ _ _ _) | exact keep6 (by assumption) (by assumption))
    (first | (go_at_call 21; refine (box_any x0 y0 x1 y1 _).mono ?_; rintro e w1 ⟨rfl, hb1⟩) | (go_at_call 39; refine (offs_any x0 y0 x1 y1 s x y _ b1 b2 b3 b4 p1 p2).mono ?_; rintro e w2 ⟨rfl, hb2⟩))
  rename_i hS
  go_wp2
  go_ret
  exact ⟨by simp, hS.2.1⟩

theorem offset_any (x0 y0 x1 y1 s x y : Int) (A : Option Addr) (c : Nat) (zs : List Int) (w : World) (hr : Reads w A zs) (hl : Small zs) (hn : A = none → c = 0)
    (b1 : -4398046511104 ≤ y - y0) (b2 : y - y0 ≤ 4398046511104) (b3 : -4398046511104 ≤ x - x0) (b4 : x - x0 ≤ 4398046511104)
    (p1 : -2305843009213693952 ≤ (y - y0) * s) (p2 : (y - y0) * s ≤ 2305843009213693952) :
    Calls Try.prog 18 #[.agg #[.int .i64 x0, .int .i64 y0, .int .i64 x1, .int .i64 y1, .int .i64 s, .slice A zs.length c], .int .i64 x, .int .i64 y] w fun e w' => e = .returned (.int .i64 ((y - y0) * s + (x - x0) * 2)) ∧ Below w.heap.size w w' := by
  have HR := Lib.hid hr
  have HN := Lib.hid hn
  clear hr hn
  go_enter Try.func18, Try.ntmps18
  go_wp2_with fail
  refine (to_any x0 y0 x1 y1 s A c zs _ (HR.out.below ((Below.refl _ _).alloc (Nat.le_refl _) _)) hl HN.out).mono ?_
  rintro e w1 ⟨g, A', c', rfl, hgb, hg, hown, hb1⟩
  have HG := Lib.hid hg
  have hB : Below w.heap.size w w1 := ((Below.refl _ _).alloc (Nat.le_refl _) _).trans (hb1.mono (by simp))
  clear hg hown
  go_wp2_with fail
  refine (pixOffset_any g A' c' zs s x0 y0 x1 y1 x y _ HG.out b1 b2 b3 b4 p1 p2).mono ?_
  rintro e w2 ⟨rfl, n, rfl⟩
  go_wp2
  go_ret
  exact ⟨by simp, below_drewN hB _⟩

end Go.Proofs.Ytmhmahdojcajpaa
