/- Contracts of the reference's functions: near, Near, NearPoint, Empty, Inside, Fair, Offset, Fits; of the laws' box and inside. -/
import Derived.Test.YtkhgobeeaiagfaaProg
import Derived.Test.YtkhgobeeaiagfaaPlain
import Derived.WalkKit
import Derived.WalkLawsBesides
import Derived.WalkSpells
import Derived.RegionTactic
import Derived.Deep.RegionHeld3
import Derived.Deep.QuietTactic
import Derived.BigQuiet
import Derived.Outline
namespace Go.Proofs.Ytkhgobeeaiagfaa
open Go.RowKit
set_option linter.unusedVariables false

theorem near_any (n : Int) (b : Bool) (hb : b = true ↔ Near n) (w : World) :
    Calls Try.prog 44 #[.int .i64 n] w fun e w' => e = .returned (.bool b) ∧ w = w' := by
  by_cases h1 : -1099511627776 ≤ n
  · by_cases h2 : n ≤ 1099511627776
    · obtain rfl : b = true := hb.2 ⟨h1, h2⟩
      clear hb
      go_enter Try.func44, Try.ntmps44
      go_wp2
      go_ret
      exact ⟨by first | (simp; done) | (simp; omega), rfl⟩
    · obtain rfl : b = false := by cases b with | false => rfl | true => exact absurd (hb.1 rfl).2 h2
      clear hb
      go_enter Try.func44, Try.ntmps44
      go_wp2
      go_ret
      exact ⟨by first | (simp; done) | (simp; omega), rfl⟩
  · obtain rfl : b = false := by cases b with | false => rfl | true => exact absurd (hb.1 rfl).1 h1
    clear hb
    go_enter Try.func44, Try.ntmps44
    go_wp2
    go_ret
    exact ⟨by first | (simp; done) | (simp; omega), rfl⟩

theorem near4_any (x0 y0 x1 y1 : Int) (b : Bool) (hb : b = true ↔ Near4 x0 y0 x1 y1) (w : World) :
    Calls Try.prog 19 #[.agg #[.int .i64 x0, .int .i64 y0, .int .i64 x1, .int .i64 y1]] w fun e w' => e = .returned (.bool b) ∧ Below w.heap.size w w' := by
  by_cases h : Near4 x0 y0 x1 y1
  · obtain rfl : b = true := hb.2 h
    clear hb
    obtain ⟨⟨_, _⟩, ⟨_, _⟩, ⟨_, _⟩, ⟨_, _⟩⟩ := h
    go_enter Try.func19, Try.ntmps19
    go_wp2
    go_ret
    exact ⟨by first | (simp; done) | (simp; omega), (Below.refl _ _).alloc (Nat.le_refl _) _⟩
  · obtain rfl : b = false := by cases b with | false => rfl | true => exact absurd (hb.1 rfl) h
    clear hb
    have h' : x0 < -1099511627776 ∨ 1099511627776 < x0 ∨ (-1099511627776 ≤ x0 ∧ x0 ≤ 1099511627776 ∧ y0 < -1099511627776) ∨ (-1099511627776 ≤ x0 ∧ x0 ≤ 1099511627776 ∧ 1099511627776 < y0) ∨
        (-1099511627776 ≤ x0 ∧ x0 ≤ 1099511627776 ∧ -1099511627776 ≤ y0 ∧ y0 ≤ 1099511627776 ∧ x1 < -1099511627776) ∨ (-1099511627776 ≤ x0 ∧ x0 ≤ 1099511627776 ∧ -1099511627776 ≤ y0 ∧ y0 ≤ 1099511627776 ∧ 1099511627776 < x1) ∨
        (-1099511627776 ≤ x0 ∧ x0 ≤ 1099511627776 ∧ -1099511627776 ≤ y0 ∧ y0 ≤ 1099511627776 ∧ -1099511627776 ≤ x1 ∧ x1 ≤ 1099511627776 ∧ y1 < -1099511627776) ∨
        (-1099511627776 ≤ x0 ∧ x0 ≤ 1099511627776 ∧ -1099511627776 ≤ y0 ∧ y0 ≤ 1099511627776 ∧ -1099511627776 ≤ x1 ∧ x1 ≤ 1099511627776 ∧ 1099511627776 < y1) := by
      unfold Near4 Near at h; omega
    clear h
    rcases h' with h | h | ⟨_, _, h⟩ | ⟨_, _, h⟩ | ⟨_, _, _, _, h⟩ | ⟨_, _, _, _, h⟩ | ⟨_, _, _, _, _, _, h⟩ | ⟨_, _, _, _, _, _, h⟩
    all_goals
      go_enter Try.func19, Try.ntmps19
      go_wp2
      go_ret
      exact ⟨by first | (simp; done) | (simp; omega), (Below.refl _ _).alloc (Nat.le_refl _) _⟩

theorem empt_any (x0 y0 x1 y1 : Int) (b : Bool) (hb : b = true ↔ Empt x0 y0 x1 y1) (w : World) :
    Calls Try.prog 23 #[.agg #[.int .i64 x0, .int .i64 y0, .int .i64 x1, .int .i64 y1]] w fun e w' => e = .returned (.bool b) ∧ Below w.heap.size w w' := by
  by_cases h1 : x1 ≤ x0
  · obtain rfl : b = true := hb.2 (Or.inl h1)
    clear hb
    go_enter Try.func23, Try.ntmps23
    go_wp2
    go_ret
    exact ⟨by first | (simp; done) | (simp; omega), (Below.refl _ _).alloc (Nat.le_refl _) _⟩
  · by_cases h2 : y1 ≤ y0
    · obtain rfl : b = true := hb.2 (Or.inr h2)
      clear hb
      go_enter Try.func23, Try.ntmps23
      go_wp2
      go_ret
      exact ⟨by first | (simp; done) | (simp; omega), (Below.refl _ _).alloc (Nat.le_refl _) _⟩
    · obtain rfl : b = false := by cases b with | false => rfl | true => exact absurd (hb.1 rfl) (by unfold Empt; omega)
      clear hb
      go_enter Try.func23, Try.ntmps23
      go_wp2
      go_ret
      exact ⟨by first | (simp; done) | (simp; omega), (Below.refl _ _).alloc (Nat.le_refl _) _⟩

theorem insd_any (x0 y0 x1 y1 x y : Int) (b : Bool) (hb : b = true ↔ Insd x0 y0 x1 y1 x y) (w : World) :
    Calls Try.prog 36 #[.agg #[.int .i64 x0, .int .i64 y0, .int .i64 x1, .int .i64 y1], .int .i64 x, .int .i64 y] w fun e w' => e = .returned (.bool b) ∧ Below w.heap.size w w' := by
  by_cases h : Insd x0 y0 x1 y1 x y
  · obtain rfl : b = true := hb.2 h
    clear hb
    obtain ⟨_, _, _, _⟩ := h
    go_enter Try.func36, Try.ntmps36
    go_wp2
    go_ret
    exact ⟨by first | (simp; done) | (simp; omega), (Below.refl _ _).alloc (Nat.le_refl _) _⟩
  · obtain rfl : b = false := by cases b with | false => rfl | true => exact absurd (hb.1 rfl) h
    clear hb
    have h' : x < x0 ∨ (x0 ≤ x ∧ x1 ≤ x) ∨ (x0 ≤ x ∧ x < x1 ∧ y < y0) ∨ (x0 ≤ x ∧ x < x1 ∧ y0 ≤ y ∧ y1 ≤ y) := by unfold Insd at h; omega
    clear h
    rcases h' with h | ⟨_, h⟩ | ⟨_, _, h⟩ | ⟨_, _, _, h⟩
    all_goals
      go_enter Try.func36, Try.ntmps36
      go_wp2
      go_ret
      exact ⟨by first | (simp; done) | (simp; omega), (Below.refl _ _).alloc (Nat.le_refl _) _⟩

theorem box_any (x0 y0 x1 y1 : Int) (w : World) :
    Calls Try.prog 20 #[.agg #[.int .i64 x0, .int .i64 y0, .int .i64 x1, .int .i64 y1]] w fun e w' => e = .returned (.agg #[.int .i64 x0, .int .i64 y0, .int .i64 x1, .int .i64 y1]) ∧ Below w.heap.size w w' := by
  go_enter Try.func20, Try.ntmps20
  go_wp2
  exact bodyPost_ret (v := .agg #[.int .i64 x0, .int .i64 y0, .int .i64 x1, .int .i64 y1]) (by simp [results, Try.results20, go_sem]) rfl ⟨rfl, ((Below.refl _ _).alloc (Nat.le_refl _) _).alloc (by simp) _⟩

theorem inside_any (x0 y0 x1 y1 x y : Int) (b : Bool) (hb : b = true ↔ Insd x0 y0 x1 y1 x y) (w : World) :
    Calls Try.prog 16 #[.agg #[.int .i64 x0, .int .i64 y0, .int .i64 x1, .int .i64 y1], .int .i64 x, .int .i64 y] w fun e w' => e = .returned (.bool b) ∧ Below w.heap.size w w' := by
  have HB := Lib.hid hb
  clear hb
  go_enter Try.func16, Try.ntmps16
  go_wp2_with fail
  refine (box_any x0 y0 x1 y1 _).mono ?_
  rintro e w1 ⟨rfl, hb1⟩
  have hB : Below w.heap.size w w1 := ((Below.refl _ _).alloc (Nat.le_refl _) _).trans (hb1.mono (by simp))
  have hz := hB.size
  go_wp2_with fail
  refine (insd_any x0 y0 x1 y1 x y b HB.out _).mono ?_
  rintro e w2 ⟨rfl, hb2⟩
  go_wp2
  go_ret
  exact ⟨rfl, hB.trans (hb2.mono hz)⟩

end Go.Proofs.Ytkhgobeeaiagfaa
