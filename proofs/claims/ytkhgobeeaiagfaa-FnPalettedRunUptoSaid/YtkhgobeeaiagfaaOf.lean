/- Contracts: bytesOf, rectangle, rect, Point.In, NearPoint, Dx, Dy. -/
import Derived.Test.YtkhgobeeaiagfaaFits
import Derived.Laws.AppendOwnNone
import Derived.Test.YtkhgobeeaiagfaaMem
import Derived.BigRegion
import Derived.Laws.BytesArg
namespace Go.Proofs.Ytkhgobeeaiagfaa
open Go.RowKit
set_option linter.unusedVariables false

theorem info5 : (Try.prog.info? 5).map (fun i => (i.zero, i.size, i.bytes)) = some (some (.int .u8 0), 1, 1) := by kernel_rfl

theorem bytesOf_any (A : Option Addr) (c : Nat) (zs : List Int) (w : World) (hr : Reads w A zs) (hl : Small zs) (hn : A = none → c = 0) :
    Calls Try.prog 55 #[.slice A zs.length c] w (BytesBack zs w) := by
  obtain ⟨i0, hi, hz0, hz1, hz2⟩ := info_parts info5
  rcases A with _ | ad
  · obtain rfl : c = 0 := hn rfl
    obtain rfl : zs = [] := hr.1 rfl
    clear hr hl hn
    go_enter Try.func55, Try.ntmps55
    go_wp2_with (at_builtin; refine wpList_append_own_none rfl _ _ 24 rfl w.heap.size 5 i0 1 Try.underlying24 hi _ 0 [] rfl (World.ownsRow_nil _ _ _ _) rfl ?_)
    go_ret
    exact ⟨_, _, rfl, World.ownsRow_nil _ _ _ _, Below.refl _ _⟩
  · have H1 := Lib.hid (bytes_news hr)
    have H2 := Lib.hid (bytes_one zs)
    have H3 : Hid (0 + zs.length ≤ maxLen) := by unfold Small at hl; unfold Hid maxLen; omega
    have H4 : Hid ((0 + zs.length) * 1 ≤ 140737488355328) := by unfold Small at hl; unfold Hid; omega
    clear hr hn hl
    go_enter Try.func55, Try.ntmps55
    go_wp2_with (at_builtin; refine wpList_append_own _ rfl _ _ 24 rfl w.heap.size 5 i0 (.int .u8 0) 1 1 Try.underlying24 hi hz0 hz1 hz2 rfl (by decide) (.slice none 0 0) 0 [] rfl (World.ownsRow_nil _ _ _ _) ad zs.length c (zs.map (Value.int .u8)) rfl (by simp) H1.out H2.out H3.out H4.out (Nat.le_refl _) ?_; intro v1 w1 hown hg hnil)
    go_ret
    simp only [Nat.zero_add, List.nil_append] at hown
    obtain ⟨A, c', rfl⟩ := own_form hown
    exact ⟨A, c', rfl, hown, (Below.refl _ _).grown hg (Nat.le_refl _) (by simp [Value.ownBlock])⟩

theorem rectangle_any (x0 y0 x1 y1 : Int) (w : World) :
    Calls Try.prog 51 #[.agg #[.int .i64 x0, .int .i64 y0, .int .i64 x1, .int .i64 y1]] w fun e w' => e = .returned (.agg #[.int .i64 x0, .int .i64 y0, .int .i64 x1, .int .i64 y1]) ∧ Below w.heap.size w w' := by
  go_enter Try.func51, Try.ntmps51
  go_wp2
  exact bodyPost_ret (v := .agg #[.int .i64 x0, .int .i64 y0, .int .i64 x1, .int .i64 y1]) (by simp [results, Try.results51, go_sem]) rfl ⟨rfl, ((Below.refl _ _).alloc (Nat.le_refl _) _).alloc (by simp) _⟩

theorem rect_any (x0 y0 x1 y1 : Int) (w : World) :
    Calls Try.prog 58 #[.agg #[.int .i64 x0, .int .i64 y0, .int .i64 x1, .int .i64 y1]] w fun e w' => e = .returned (.agg #[.int .i64 x0, .int .i64 y0, .int .i64 x1, .int .i64 y1]) ∧ Below w.heap.size w w' := by
  go_enter Try.func58, Try.ntmps58
  go_wp2
  exact bodyPost_ret (v := .agg #[.int .i64 x0, .int .i64 y0, .int .i64 x1, .int .i64 y1]) (by simp [results, Try.results58, go_sem]) rfl ⟨rfl, ((Below.refl _ _).alloc (Nat.le_refl _) _).alloc (by simp) _⟩

theorem in_any (x0 y0 x1 y1 x y : Int) (b : Bool) (hb : b = true ↔ Insd x0 y0 x1 y1 x y) (w : World) :
    Calls Try.prog 56 #[.agg #[.int .i64 x, .int .i64 y], .agg #[.int .i64 x0, .int .i64 y0, .int .i64 x1, .int .i64 y1]] w fun e w' => e = .returned (.bool b) ∧ Below w.heap.size w w' := by
  by_cases h : Insd x0 y0 x1 y1 x y
  · obtain rfl : b = true := hb.2 h
    clear hb
    obtain ⟨_, _, _, _⟩ := h
    go_enter Try.func56, Try.ntmps56
    go_wp2
    go_ret
    exact ⟨by first | (simp; done) | (simp; omega), ((Below.refl _ _).alloc (Nat.le_refl _) _).alloc (by simp) _⟩
  · obtain rfl : b = false := by cases b with | false => rfl | true => exact absurd (hb.1 rfl) h
    clear hb
    have h' : x < x0 ∨ (x0 ≤ x ∧ x1 ≤ x) ∨ (x0 ≤ x ∧ x < x1 ∧ y < y0) ∨ (x0 ≤ x ∧ x < x1 ∧ y0 ≤ y ∧ y1 ≤ y) := by unfold Insd at h; omega
    clear h
    rcases h' with h | ⟨_, h⟩ | ⟨_, _, h⟩ | ⟨_, _, _, h⟩
    all_goals
      go_enter Try.func56, Try.ntmps56
      go_wp2
      go_ret
      exact ⟨by first | (simp; done) | (simp; omega), ((Below.refl _ _).alloc (Nat.le_refl _) _).alloc (by simp) _⟩

theorem near_point {x0 y0 x1 y1 s sz long x y : Int} (h : Fits x0 y0 x1 y1 s sz long) (hi : Insd x0 y0 x1 y1 x y) :
    -4398046511104 ≤ y - y0 ∧ y - y0 ≤ 4398046511104 ∧ -4398046511104 ≤ x - x0 ∧ x - x0 ≤ 4398046511104 := by
  obtain ⟨⟨_, _, _, _, _, _⟩, _, _⟩ := h
  obtain ⟨_, _, _, _⟩ := hi
  omega

theorem nearPoint_any (x y : Int) (b : Bool) (hb : b = true ↔ Near x ∧ Near y) (w : World) :
    Calls Try.prog 21 #[.int .i64 x, .int .i64 y] w fun e w' => e = .returned (.bool b) ∧ w = w' := by
  by_cases hx : Near x
  · have HX := Lib.hid hx
    have HB := Lib.hid hb
    clear hx hb
    by_cases hy : Near y
    · have HY := Lib.hid hy
      clear hy
      obtain rfl : b = true := HB.out.2 ⟨HX.out, HY.out⟩
      clear HB
      go_enter Try.func21, Try.ntmps21
      go_wp2_with fail
      refine (near_any x true (by simp [HX.out]) _).mono ?_
      rintro e w' ⟨rfl, rfl⟩
      go_wp2_with fail
      refine (near_any y true (by simp [HY.out]) _).mono ?_
      rintro e w' ⟨rfl, rfl⟩
      go_wp2
      go_ret
      exact ⟨by simp, rfl⟩
    · have HY := Lib.hid hy
      clear hy
      obtain rfl : b = false := by cases b with | false => rfl | true => exact absurd (HB.out.1 rfl).2 HY.out
      clear HB
      go_enter Try.func21, Try.ntmps21
      go_wp2_with fail
      refine (near_any x true (by simp [HX.out]) _).mono ?_
      rintro e w' ⟨rfl, rfl⟩
      go_wp2_with fail
      refine (near_any y false (by simp [HY.out]) _).mono ?_
      rintro e w' ⟨rfl, rfl⟩
      go_wp2
      go_ret
      exact ⟨by simp, rfl⟩
  · have HX := Lib.hid hx
    obtain rfl : b = false := by cases b with | false => rfl | true => exact absurd (hb.1 rfl).1 hx
    clear hx hb
    go_enter Try.func21, Try.ntmps21
    go_wp2_with fail
    refine (near_any x false (by simp [HX.out]) _).mono ?_
    rintro e w' ⟨rfl, rfl⟩
    go_wp2
    go_ret
    exact ⟨by simp, rfl⟩

theorem mul64_small (a b : Int) (w : World) (a0 : 0 ≤ a) (a1 : a ≤ 1048576) (b0 : 0 ≤ b) (b1 : b ≤ 1048576) (p0 : 0 ≤ a * b) (p1 : a * b ≤ 4294967295) :
    Calls Try.prog 65 #[.int .u64 a, .int .u64 b] w fun e w' => e = .returned (.tuple #[.int .u64 0, .int .u64 (a * b)]) ∧ w = w' := by
  have m0 : bits BinOp.and IntKind.u64 0 4294967295 = 0 := by decide
  have ma : ∀ x : Int, 0 ≤ x → x ≤ 4294967295 → bits BinOp.and IntKind.u64 x 4294967295 = x := by
    intro x h0 h1
    obtain ⟨n, rfl⟩ := Int.eq_ofNat_of_zero_le h0
    have e := u64_and_nat n 4294967295 (by omega) (by omega)
    have e2 : n &&& 4294967295 = n % 4294967296 := Nat.and_two_pow_sub_one_eq_mod n 32
    rw [e2] at e
    have e3 : n % 4294967296 = n := Nat.mod_eq_of_lt (by omega)
    rw [e3] at e
    exact e
  have m1 := ma a a0 (by omega)
  have m2 := ma b b0 (by omega)
  have d1 : a / 4294967296 = 0 := by omega
  have d2 : b / 4294967296 = 0 := by omega
  have d3 : a * b / 4294967296 = 0 := by omega
  clear ma
  go_enter Try.func65, Try.ntmps65
  go_wp2
  go_ret2
  exact ⟨by simp, rfl⟩

theorem dx_any (x0 y0 x1 y1 : Int) (w : World) (h0 : -4398046511104 ≤ x1 - x0) (h1 : x1 - x0 ≤ 4398046511104) :
    Calls Try.prog 57 #[.agg #[.int .i64 x0, .int .i64 y0, .int .i64 x1, .int .i64 y1]] w fun e w' => e = .returned (.int .i64 (x1 - x0)) ∧ Below w.heap.size w w' := by
  go_enter Try.func57, Try.ntmps57
  go_wp2
  go_ret
  exact ⟨by simp, (Below.refl _ _).alloc (Nat.le_refl _) _⟩
theorem dy_any (x0 y0 x1 y1 : Int) (w : World) (h0 : -4398046511104 ≤ y1 - y0) (h1 : y1 - y0 ≤ 4398046511104) :
    Calls Try.prog 64 #[.agg #[.int .i64 x0, .int .i64 y0, .int .i64 x1, .int .i64 y1]] w fun e w' => e = .returned (.int .i64 (y1 - y0)) ∧ Below w.heap.size w w' := by
  go_enter Try.func64, Try.ntmps64
  go_wp2
  go_ret
  exact ⟨by simp, (Below.refl _ _).alloc (Nat.le_refl _) _⟩

end Go.Proofs.Ytkhgobeeaiagfaa
