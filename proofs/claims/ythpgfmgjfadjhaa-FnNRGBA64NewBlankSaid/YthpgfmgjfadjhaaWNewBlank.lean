/- ContainsFunc over bytes that are all zero; the walk of the law FnNRGBA64NewBlank. -/
import Derived.Test.YthpgfmgjfadjhaaWNew
namespace Go.Proofs.Ythpgfmgjfadjhaa
open Go.RowKit
set_option linter.unusedVariables false

theorem clo_any (w : World) : Calls Try.prog 33 #[.int .u8 0] w fun e w' => e = .returned (.bool false) ∧ w = w' := by
  go_enter Try.func33, Try.ntmps33
  go_wp2
  go_ret
  exact ⟨by simp, rfl⟩

theorem index_some (b o n c : Nat) (w : World) (hn : (n : Int) ≤ 524288) (hc : Hid (∀ k, k < n → w.cell? ⟨b, o + k, none⟩ = some (.int .u8 0))) :
    Calls Try.prog 56 #[.slice (some ⟨b, o, none⟩) n c, (.func (.func 33) #[] #[])] w fun e w' => e = .returned (.int .i64 (-1)) ∧ w = w' := by
  go_enter Try.func56, Try.ntmps56
  go_wp2
  go_loop [8] (fun i => ∃ k : Nat, k ≤ n ∧ i = .int .i64 k) (fun i => n - (intOf i).toNat)
  case atStart => exact ⟨0, Nat.zero_le _, rfl⟩
  case round =>
    obtain ⟨k, hk, rfl⟩ := hrel
    by_cases hlt : k < n
    · have hcell := hc.out k hlt
      go_wp2_with (go_at_call 33; refine (clo_any _).mono ?_; rintro e w' ⟨rfl, rfl⟩)
      go_round
      case rel => exact ⟨k + 1, by omega, by go_num⟩
      case measure => simp [intOf]; omega
    · go_wp2
      go_ret
      exact ⟨rfl, rfl⟩

theorem index_none (A : Option Addr) (c : Nat) (w : World) :
    Calls Try.prog 56 #[.slice A 0 c, (.func (.func 33) #[] #[])] w fun e w' => e = .returned (.int .i64 (-1)) ∧ w = w' := by
  go_enter Try.func56, Try.ntmps56
  go_wp2
  go_loop [8] (fun i => i = .int .i64 0) (fun _ => 0)
  case atStart => rfl
  case round =>
    obtain rfl := hrel
    go_wp2
    go_ret
    exact ⟨rfl, rfl⟩

theorem index_zeros (A : Option Addr) (n c : Nat) (w : World) (hn : n ≤ 524288) (hr : Reads w A (zeros n)) :
    Calls Try.prog 56 #[.slice A (zeros n).length c, (.func (.func 33) #[] #[])] w fun e w' => e = .returned (.int .i64 (-1)) ∧ w = w' := by
  rcases Nat.eq_zero_or_pos n with rfl | hp
  · exact index_none A c w
  · obtain ⟨b, o, rfl⟩ := hr.addr (by rw [zeros_length]; exact hp)
    rw [zeros_length]
    refine index_some b o n c w (by omega) (fun k hk => ?_)
    have := hr.cell (j := k) (by rw [zeros_length]; exact hk)
    simpa [zeros, hk] using this

theorem contains_zeros (A : Option Addr) (n c : Nat) (w : World) (hn : n ≤ 524288) (hr : Hid (Reads w A (zeros n))) :
    Calls Try.prog 32 #[.slice A (zeros n).length c, (.func (.func 33) #[] #[])] w fun e w' => e = .returned (.bool false) ∧ w = w' := by
  go_enter Try.func32, Try.ntmps32
  go_wp2_with fail
  refine (index_zeros A n c _ hn hr.out).mono ?_
  rintro e w1 ⟨rfl, rfl⟩
  go_wp2
  go_ret
  exact ⟨by simp, rfl⟩

theorem blank_unfair (x0 y0 x1 y1 : Int) (w : World) (hF : Hid (¬ Fair x0 y0 x1 y1)) :
    Calls Try.prog 10 #[.agg #[.int .i64 x0, .int .i64 y0, .int .i64 x1, .int .i64 y1]] w fun e w' => e = .returned (.bool true) ∧ Below w.heap.size w w' := by
  go_enter Try.func10, Try.ntmps10
  go_wp2_with fail
  refine (box_any x0 y0 x1 y1 _).mono ?_
  rintro e w1 ⟨rfl, hb1⟩
  obtain ⟨hz1, hB1, c10, c11, c12, c13⟩ := keep4 hb1 (start4 w _ _ _ _ _ )
  clear hb1
  go_wp2_with fail
  refine (fair_any x0 y0 x1 y1 false (by simp [hF.out]) _).mono ?_
  rintro e w2 ⟨rfl, hb2⟩
  obtain ⟨hz2, hB2, c20, c21, c22, c23⟩ := keep4 hb2 ⟨hz1, hB1, c10, c11, c12, c13⟩
  clear hb2 hz1 hB1 c10 c11 c12 c13
  go_wp2
  go_ret
  exact ⟨by simp, hB2⟩

theorem blank_fair (x0 y0 x1 y1 : Int) (w : World) (hF : Hid (Fair x0 y0 x1 y1)) :
    Calls Try.prog 10 #[.agg #[.int .i64 x0, .int .i64 y0, .int .i64 x1, .int .i64 y1]] w fun e w' => e = .returned (.bool true) ∧ Below w.heap.size w w' := by
  obtain ⟨_, g1, g2, g3, g4, g5⟩ := hF.out
  have p0 : 0 ≤ (x1 - x0) * (y1 - y0) := Int.mul_nonneg (by omega) (by omega)
  obtain ⟨n, hn, hn2⟩ : ∃ n : Nat, 8 * (x1 - x0) * (y1 - y0) = n ∧ n ≤ 524288 := by
    have e1 : 8 * (x1 - x0) * (y1 - y0) = 8 * ((x1 - x0) * (y1 - y0)) := Int.mul_assoc _ _ _
    generalize 8 * (x1 - x0) * (y1 - y0) = t at *
    exact ⟨t.toNat, by omega, by omega⟩
  have HN := Lib.hid hn
  have q0 : 0 ≤ 8 * (x1 - x0) * (y1 - y0) := by omega
  have q1 : 8 * (x1 - x0) * (y1 - y0) ≤ 524288 := by omega
  have e1 : (8 * (x1 - x0) == 8 * (x1 - x0)) = true := by simp
  have e2 : (((zeros n).length : Int) == 8 * (x1 - x0) * (y1 - y0)) = true := by rw [zeros_length, hn]; simp
  clear hn
  have a0 : 0 ≤ x1 - x0 := by omega
  have b0 : 0 ≤ y1 - y0 := by omega
  go_enter Try.func10, Try.ntmps10
  go_wp2_with fail
  refine (box_any x0 y0 x1 y1 _).mono ?_
  rintro e w1 ⟨rfl, hb1⟩
  obtain ⟨hz1, hB1, c10, c11, c12, c13⟩ := keep4 hb1 (start4 w _ _ _ _ _ )
  clear hb1
  go_wp2_with fail
  refine (fair_any x0 y0 x1 y1 true (by simp [hF.out]) _).mono ?_
  rintro e w2 ⟨rfl, hb2⟩
  obtain ⟨hz2, hB2, c20, c21, c22, c23⟩ := keep4 hb2 ⟨hz1, hB1, c10, c11, c12, c13⟩
  clear hb2 hz1 hB1 c10 c11 c12 c13
  go_wp2_with fail
  refine (implNew_any x0 y0 x1 y1 n _ a0 g3 b0 g4 p0 g5 HN hn2).mono ?_
  rintro e w3 ⟨A3, c3, rfl, hown3, hb3⟩
  have HR := Lib.hid (Reads.of_own hown3)
  obtain ⟨hz3, hB3, c30, c31, c32, c33⟩ := keep4 hb3 ⟨hz2, hB2, c20, c21, c22, c23⟩
  clear hb3 hz2 hB2 c20 c21 c22 c23
  clear hown3
  go_wp2_with fail
  refine (contains_zeros A3 n c3 _ hn2 (HR.out.below ((Below.refl _ _).alloc (Nat.le_refl _) _))).mono ?_
  rintro e w4 ⟨rfl, rfl⟩
  go_wp2
  go_ret
  exact ⟨by simp, hB3.alloc hB3.size _⟩

theorem walk_newBlank (x0 y0 x1 y1 : Int) (w : World) : Calls Try.prog 10 #[.agg #[.int .i64 x0, .int .i64 y0, .int .i64 x1, .int .i64 y1]] w fun e w' => e = .returned (.bool true) ∧ Below w.heap.size w w' := by
  by_cases hF : Fair x0 y0 x1 y1
  · exact blank_fair x0 y0 x1 y1 w hF
  · exact blank_unfair x0 y0 x1 y1 w hF

end Go.Proofs.Ythpgfmgjfadjhaa
