/- Making an image: Mul64, mul3NonNeg, pixelBufferLength, NewGray16. -/
import Derived.Test.YtmhmahdojcajpaaOf
import Derived.Deep.OwnRows
namespace Go.Proofs.Ytmhmahdojcajpaa
open Go.RowKit
set_option linter.unusedVariables false

theorem mul64_small (a b : Int) (w : World) (a0 : 0 ≤ a) (a1 : a ≤ 1048576) (b0 : 0 ≤ b) (b1 : b ≤ 1048576) (p0 : 0 ≤ a * b) (p1 : a * b ≤ 4294967295) :
    Calls Try.prog 66 #[.int .u64 a, .int .u64 b] w fun e w' => e = .returned (.tuple #[.int .u64 0, .int .u64 (a * b)]) ∧ w = w' := by
  have m0 : bits BinOp.and IntKind.u64 0 4294967295 = 0 := by decide
  have ma : ∀ x : Int, 0 ≤ x → x ≤ 4294967295 → bits BinOp.and IntKind.u64 x 4294967295 = x := by
    intro x h0 h1
    obtain ⟨n, rfl⟩ := Int.eq_ofNat_of_zero_le h0
    have e := u64_and_nat n 4294967295 (by omega) (by omega)
    have e2 : n &&& 4294967295 = n % 4294967296 := Nat.and_two_pow_sub_one_eq_mod n 32
    rw [e2] at e
    have e3 : n % 4294967296 = n := Nat.mod_eq_of_lt (by omega)
    rw [e3] at e
    exact e
  have m1 := ma a a0 (by omega)
  have m2 := ma b b0 (by omega)
  have d1 : a / 4294967296 = 0 := by omega
  have d2 : b / 4294967296 = 0 := by omega
  have d3 : a * b / 4294967296 = 0 := by omega
  clear ma
  go_enter Try.func66, Try.ntmps66
  go_wp2
  go_ret2
  exact ⟨by simp, rfl⟩

theorem mul3_any (a b : Int) (w : World) (a0 : 0 ≤ a) (a1 : a ≤ 65536) (b0 : 0 ≤ b) (b1 : b ≤ 65536) (p0 : 0 ≤ a * b) (p1 : a * b ≤ 65536) :
    Calls Try.prog 67 #[.int .i64 2, .int .i64 a, .int .i64 b] w fun e w' => e = .returned (.int .i64 (2 * a * b)) ∧ w = w' := by
  have e1 : 2 * a * b = 2 * (a * b) := Int.mul_assoc _ _ _
  have q0 : 0 ≤ 2 * a * b := by omega
  have q1 : 2 * a * b ≤ 524288 := by omega
  have n1 : (2 * a * b != 2 * a * b) = false := by simp
  clear e1
  go_enter Try.func67, Try.ntmps67
  go_wp2_with fail
  refine (mul64_small 2 a _ (by omega) (by omega) (by omega) (by omega) (by omega) (by omega)).mono ?_
  rintro e w1 ⟨rfl, rfl⟩
  go_wp2_with fail
  refine (mul64_small (2 * a) b _ (by omega) (by omega) (by omega) (by omega) (by omega) (by omega)).mono ?_
  rintro e w1 ⟨rfl, rfl⟩
  go_wp2
  go_ret
  exact ⟨by simp, rfl⟩

theorem dx_any (x0 y0 x1 y1 : Int) (w : World) (h0 : -4398046511104 ≤ x1 - x0) (h1 : x1 - x0 ≤ 4398046511104) :
    Calls Try.prog 62 #[.agg #[.int .i64 x0, .int .i64 y0, .int .i64 x1, .int .i64 y1]] w fun e w' => e = .returned (.int .i64 (x1 - x0)) ∧ Below w.heap.size w w' := by
  go_enter Try.func62, Try.ntmps62
  go_wp2
  go_ret
  exact ⟨by simp, (Below.refl _ _).alloc (Nat.le_refl _) _⟩
theorem dy_any (x0 y0 x1 y1 : Int) (w : World) (h0 : -4398046511104 ≤ y1 - y0) (h1 : y1 - y0 ≤ 4398046511104) :
    Calls Try.prog 68 #[.agg #[.int .i64 x0, .int .i64 y0, .int .i64 x1, .int .i64 y1]] w fun e w' => e = .returned (.int .i64 (y1 - y0)) ∧ Below w.heap.size w w' := by
  go_enter Try.func68, Try.ntmps68
  go_wp2
  go_ret
  exact ⟨by simp, (Below.refl _ _).alloc (Nat.le_refl _) _⟩

theorem pbl_any (x0 y0 x1 y1 : Int) (str : ByteArray) (w : World) (a0 : 0 ≤ x1 - x0) (a1 : x1 - x0 ≤ 65536) (b0 : 0 ≤ y1 - y0) (b1 : y1 - y0 ≤ 65536) (p0 : 0 ≤ (x1 - x0) * (y1 - y0)) (p1 : (x1 - x0) * (y1 - y0) ≤ 65536) :
    Calls Try.prog 61 #[.int .i64 2, .agg #[.int .i64 x0, .int .i64 y0, .int .i64 x1, .int .i64 y1], .string str] w fun e w' => e = .returned (.int .i64 (2 * (x1 - x0) * (y1 - y0))) ∧ Below w.heap.size w w' := by
  have e1 : 2 * (x1 - x0) * (y1 - y0) = 2 * ((x1 - x0) * (y1 - y0)) := Int.mul_assoc _ _ _
  have q0 : 0 ≤ 2 * (x1 - x0) * (y1 - y0) := by omega
  clear e1
  have S0 := keepD4 (start4 w 87 (.int .i64 x0) (.int .i64 y0) (.int .i64 x1) (.int .i64 y1))
  go_enter Try.func61, Try.ntmps61
  go_wp2
  go_region_held3 (fun w' => w.heap.size < w'.heap.size ∧ Below w.heap.size w w' ∧ w'.cell? ⟨w.heap.size, 0, none⟩ = some (.int .i64 x0) ∧ w'.cell? ⟨w.heap.size, 1, none⟩ = some (.int .i64 y0) ∧ w'.cell? ⟨w.heap.size, 2, none⟩ = some (.int .i64 x1) ∧ w'.cell? ⟨w.heap.size, 3, none⟩ = some (.int .i64 y1))
    (first | with_reducible exact S3 | with_reducible exact S2 | with_reducible exact S1 | with_reducible exact S0)
    (first | (go_at_call 62; refine (dx_any x0 y0 x1 y1 _ (by omega) (by omega)).mono ?_; rintro e w1 ⟨rfl, hb1⟩; have S1 := keep4 hb1 S0) | (go_at_call 68; refine (dy_any x0 y0 x1 y1 _ (by omega) (by omega)).mono ?_; rintro e w2 ⟨rfl, hb2⟩; have S2 := keep4 hb2 S1) | (go_at_call 67; refine (mul3_any (x1 - x0) (y1 - y0) _ a0 a1 b0 b1 p0 p1).mono ?_; rintro e w3 ⟨rfl, rfl⟩))
  go_wp2
  go_ret
  exact ⟨by simp, S2.2.1⟩

end Go.Proofs.Ytmhmahdojcajpaa
