/- The walks of the laws FnGray16Offset and FnGray16OffsetAnywhere. -/
import Derived.Test.YtmhmahdojcajpaaImg2
namespace Go.Proofs.Ytmhmahdojcajpaa
open Go.RowKit
set_option linter.unusedVariables false

theorem near_point {x0 y0 x1 y1 s sz long x y : Int} (h : Fits x0 y0 x1 y1 s sz long) (hi : Insd x0 y0 x1 y1 x y) :
    -4398046511104 ≤ y - y0 ∧ y - y0 ≤ 4398046511104 ∧ -4398046511104 ≤ x - x0 ∧ x - x0 ≤ 4398046511104 := by
  obtain ⟨⟨_, _, _, _, _, _⟩, _, _⟩ := h
  obtain ⟨_, _, _, _⟩ := hi
  omega

theorem offset_unfit (x0 y0 x1 y1 s x y : Int) (A : Option Addr) (c : Nat) (zs : List Int) (w : World) (hr : Hid (Reads w A zs)) (hl : Small zs) (hn : Hid (A = none → c = 0)) (hF : Hid (¬ Fits x0 y0 x1 y1 s 2 zs.length)) :
    Calls Try.prog 3 #[.agg #[.int .i64 x0, .int .i64 y0, .int .i64 x1, .int .i64 y1, .int .i64 s, .slice A zs.length c], .int .i64 x, .int .i64 y] w fun e w' => e = .returned (.bool true) ∧ Below w.heap.size w w' := by
  go_enter Try.func3, Try.ntmps3
  go_wp2_with fail
  refine (fitsK_any x0 y0 x1 y1 s A c zs false (by simp [hF.out]) _).mono ?_
  rintro e w1 ⟨rfl, hb1⟩
  obtain ⟨hz1, hB1, c10, c11, c12, c13, c14, c15⟩ := keep6 hb1 (start6 w _ _ _ _ _ _ _ )
  clear hb1
  go_wp2
  go_ret
  exact ⟨by simp, hB1⟩

theorem offset_out (x0 y0 x1 y1 s x y : Int) (A : Option Addr) (c : Nat) (zs : List Int) (w : World) (hr : Hid (Reads w A zs)) (hl : Small zs) (hn : Hid (A = none → c = 0)) (hF : Hid (Fits x0 y0 x1 y1 s 2 zs.length)) (hI : Hid (¬ Insd x0 y0 x1 y1 x y)) :
    Calls Try.prog 3 #[.agg #[.int .i64 x0, .int .i64 y0, .int .i64 x1, .int .i64 y1, .int .i64 s, .slice A zs.length c], .int .i64 x, .int .i64 y] w fun e w' => e = .returned (.bool true) ∧ Below w.heap.size w w' := by
  go_enter Try.func3, Try.ntmps3
  go_wp2_with fail
  refine (fitsK_any x0 y0 x1 y1 s A c zs true (by simp [hF.out]) _).mono ?_
  rintro e w1 ⟨rfl, hb1⟩
  obtain ⟨hz1, hB1, c10, c11, c12, c13, c14, c15⟩ := keep6 hb1 (start6 w _ _ _ _ _ _ _ )
  clear hb1
  go_wp2_with fail
  refine (inside_any x0 y0 x1 y1 x y false (by simp [hI.out]) _).mono ?_
  rintro e w2 ⟨rfl, hb2⟩
  obtain ⟨hz2, hB2, c20, c21, c22, c23, c24, c25⟩ := keep6 hb2 ⟨hz1, hB1, c10, c11, c12, c13, c14, c15⟩
  clear hb2 hz1 hB1 c10 c11 c12 c13 c14 c15
  go_wp2
  go_ret
  exact ⟨by simp, hB2⟩

theorem offset_in (x0 y0 x1 y1 s x y : Int) (A : Option Addr) (c : Nat) (zs : List Int) (w : World) (hr : Hid (Reads w A zs)) (hl : Small zs) (hn : Hid (A = none → c = 0)) (hF : Hid (Fits x0 y0 x1 y1 s 2 zs.length)) (hI : Hid (Insd x0 y0 x1 y1 x y)) :
    Calls Try.prog 3 #[.agg #[.int .i64 x0, .int .i64 y0, .int .i64 x1, .int .i64 y1, .int .i64 s, .slice A zs.length c], .int .i64 x, .int .i64 y] w fun e w' => e = .returned (.bool true) ∧ Below w.heap.size w w' := by
  obtain ⟨b1, b2, b3, b4⟩ : -4398046511104 ≤ y - y0 ∧ y - y0 ≤ 4398046511104 ∧ -4398046511104 ≤ x - x0 ∧ x - x0 ≤ 4398046511104 := near_point hF.out hI.out
  obtain ⟨p1, p2⟩ : -2305843009213693952 ≤ (y - y0) * s ∧ (y - y0) * s ≤ 2305843009213693952 := (by have := hF.out.prods hI.out; omega)
  go_enter Try.func3, Try.ntmps3
  go_wp2_with fail
  refine (fitsK_any x0 y0 x1 y1 s A c zs true (by simp [hF.out]) _).mono ?_
  rintro e w1 ⟨rfl, hb1⟩
  obtain ⟨hz1, hB1, c10, c11, c12, c13, c14, c15⟩ := keep6 hb1 (start6 w _ _ _ _ _ _ _ )
  clear hb1
  go_wp2_with fail
  refine (inside_any x0 y0 x1 y1 x y true (by simp [hI.out]) _).mono ?_
  rintro e w2 ⟨rfl, hb2⟩
  obtain ⟨hz2, hB2, c20, c21, c22, c23, c24, c25⟩ := keep6 hb2 ⟨hz1, hB1, c10, c11, c12, c13, c14, c15⟩
  clear hb2 hz1 hB1 c10 c11 c12 c13 c14 c15
  go_wp2
  go_region_held3 (fun w' => w.heap.size < w'.heap.size ∧ Below w.heap.size w w' ∧ w'.cell? ⟨w.heap.size, 0, none⟩ = some (.int .i64 x0) ∧ w'.cell? ⟨w.heap.size, 1, none⟩ = some (.int .i64 y0) ∧ w'.cell? ⟨w.heap.size, 2, none⟩ = some (.int .i64 x1) ∧ w'.cell? ⟨w.heap.size, 3, none⟩ = some (.int .i64 y1) ∧ w'.cell? ⟨w.heap.size, 4, none⟩ = some (.int .i64 s) ∧ w'.cell? ⟨w.heap.size, 5, none⟩ = some (.slice A zs.length c))
    (first | exact ⟨hz2, hB2.drew, c20, c21, c22, c23, c24, c25⟩ | exact keep6 (by assumption) (by assumption))
    (first | (go_at_call 18; refine (offset_any x0 y0 x1 y1 s x y A c zs _ ?_ hl hn.out b1 b2 b3 b4 p1 p2).mono ?_; exact hr.out.below (heldB (by assumption)); rintro e w8 ⟨rfl, hb8⟩) | (go_at_call 19; refine (atK_any x0 y0 x1 y1 s x y A c zs _ b1 b2 b3 b4 p1 p2).mono ?_; rintro e w9 ⟨rfl, hb9⟩))
  rename_i hS
  go_wp2
  go_ret
  exact ⟨by simp, hS.2.1⟩

theorem walk_offset (x0 y0 x1 y1 s x y : Int) (A : Option Addr) (c : Nat) (zs : List Int) (w : World) (hr : Hid (Reads w A zs)) (hl : Small zs) (hn : Hid (A = none → c = 0)) :
    Calls Try.prog 3 #[.agg #[.int .i64 x0, .int .i64 y0, .int .i64 x1, .int .i64 y1, .int .i64 s, .slice A zs.length c], .int .i64 x, .int .i64 y] w fun e w' => e = .returned (.bool true) ∧ Below w.heap.size w w' := by
  by_cases hF : Fits x0 y0 x1 y1 s 2 zs.length
  · by_cases hI : Insd x0 y0 x1 y1 x y
    · exact offset_in x0 y0 x1 y1 s x y A c zs w hr hl hn hF hI
    · exact offset_out x0 y0 x1 y1 s x y A c zs w hr hl hn hF hI
  · exact offset_unfit x0 y0 x1 y1 s x y A c zs w hr hl hn hF

theorem nearPoint_any (x y : Int) (b : Bool) (hb : b = true ↔ Near x ∧ Near y) (w : World) :
    Calls Try.prog 22 #[.int .i64 x, .int .i64 y] w fun e w' => e = .returned (.bool b) ∧ w = w' := by
  by_cases hx : Near x
  · have HX := Lib.hid hx
    have HB := Lib.hid hb
    clear hx hb
    by_cases hy : Near y
    · have HY := Lib.hid hy
      clear hy
      obtain rfl : b = true := HB.out.2 ⟨HX.out, HY.out⟩
      clear HB
      go_enter Try.func22, Try.ntmps22
      go_wp2_with fail
      refine (near_any x true (by simp [HX.out]) _).mono ?_
      rintro e w' ⟨rfl, rfl⟩
      go_wp2_with fail
      refine (near_any y true (by simp [HY.out]) _).mono ?_
      rintro e w' ⟨rfl, rfl⟩
      go_wp2
      go_ret
      exact ⟨by simp, rfl⟩
    · have HY := Lib.hid hy
      clear hy
      obtain rfl : b = false := by cases b with | false => rfl | true => exact absurd (HB.out.1 rfl).2 HY.out
      clear HB
      go_enter Try.func22, Try.ntmps22
      go_wp2_with fail
      refine (near_any x true (by simp [HX.out]) _).mono ?_
      rintro e w' ⟨rfl, rfl⟩
      go_wp2_with fail
      refine (near_any y false (by simp [HY.out]) _).mono ?_
      rintro e w' ⟨rfl, rfl⟩
      go_wp2
      go_ret
      exact ⟨by simp, rfl⟩
  · have HX := Lib.hid hx
    obtain rfl : b = false := by cases b with | false => rfl | true => exact absurd (hb.1 rfl).1 hx
    clear hx hb
    go_enter Try.func22, Try.ntmps22
    go_wp2_with fail
    refine (near_any x false (by simp [HX.out]) _).mono ?_
    rintro e w' ⟨rfl, rfl⟩
    go_wp2
    go_ret
    exact ⟨by simp, rfl⟩

theorem anyw_far (x0 y0 x1 y1 s x y : Int) (A : Option Addr) (c : Nat) (zs : List Int) (w : World) (hr : Hid (Reads w A zs)) (hl : Small zs) (hn : Hid (A = none → c = 0)) (hN : Hid (¬ Near4 x0 y0 x1 y1)) :
    Calls Try.prog 4 #[.agg #[.int .i64 x0, .int .i64 y0, .int .i64 x1, .int .i64 y1, .int .i64 s, .slice A zs.length c], .int .i64 x, .int .i64 y] w fun e w' => e = .returned (.bool true) ∧ Below w.heap.size w w' := by
  go_enter Try.func4, Try.ntmps4
  go_wp2_with fail
  refine (box_any x0 y0 x1 y1 _).mono ?_
  rintro e w1 ⟨rfl, hb1⟩
  obtain ⟨hz1, hB1, c10, c11, c12, c13, c14, c15⟩ := keep6 hb1 (start6 w _ _ _ _ _ _ _ )
  clear hb1
  go_wp2_with fail
  refine (near4_any x0 y0 x1 y1 false (by simp [hN.out]) _).mono ?_
  rintro e w2 ⟨rfl, hb2⟩
  obtain ⟨hz2, hB2, c20, c21, c22, c23, c24, c25⟩ := keep6 hb2 ⟨hz1, hB1, c10, c11, c12, c13, c14, c15⟩
  clear hb2 hz1 hB1 c10 c11 c12 c13 c14 c15
  go_wp2
  go_ret
  exact ⟨by simp, hB2⟩

theorem anyw_point (x0 y0 x1 y1 s x y : Int) (A : Option Addr) (c : Nat) (zs : List Int) (w : World) (hr : Hid (Reads w A zs)) (hl : Small zs) (hn : Hid (A = none → c = 0)) (hN : Hid (Near4 x0 y0 x1 y1)) (hP : Hid (¬ (Near x ∧ Near y))) :
    Calls Try.prog 4 #[.agg #[.int .i64 x0, .int .i64 y0, .int .i64 x1, .int .i64 y1, .int .i64 s, .slice A zs.length c], .int .i64 x, .int .i64 y] w fun e w' => e = .returned (.bool true) ∧ Below w.heap.size w w' := by
  go_enter Try.func4, Try.ntmps4
  go_wp2_with fail
  refine (box_any x0 y0 x1 y1 _).mono ?_
  rintro e w1 ⟨rfl, hb1⟩
  obtain ⟨hz1, hB1, c10, c11, c12, c13, c14, c15⟩ := keep6 hb1 (start6 w _ _ _ _ _ _ _ )
  clear hb1
  go_wp2_with fail
  refine (near4_any x0 y0 x1 y1 true (by simp [hN.out]) _).mono ?_
  rintro e w2 ⟨rfl, hb2⟩
  obtain ⟨hz2, hB2, c20, c21, c22, c23, c24, c25⟩ := keep6 hb2 ⟨hz1, hB1, c10, c11, c12, c13, c14, c15⟩
  clear hb2 hz1 hB1 c10 c11 c12 c13 c14 c15
  go_wp2_with fail
  refine (nearPoint_any x y false (by simp [hP.out]) _).mono ?_
  rintro e w2' ⟨rfl, rfl⟩
  go_wp2
  go_ret
  exact ⟨by simp, hB2⟩

theorem anyw_hi (x0 y0 x1 y1 s x y : Int) (A : Option Addr) (c : Nat) (zs : List Int) (w : World) (hr : Hid (Reads w A zs)) (hl : Small zs) (hn : Hid (A = none → c = 0)) (hN : Hid (Near4 x0 y0 x1 y1)) (hP : Hid (Near x ∧ Near y)) (h : 1048576 < s) :
    Calls Try.prog 4 #[.agg #[.int .i64 x0, .int .i64 y0, .int .i64 x1, .int .i64 y1, .int .i64 s, .slice A zs.length c], .int .i64 x, .int .i64 y] w fun e w' => e = .returned (.bool true) ∧ Below w.heap.size w w' := by
  go_enter Try.func4, Try.ntmps4
  go_wp2_with fail
  refine (box_any x0 y0 x1 y1 _).mono ?_
  rintro e w1 ⟨rfl, hb1⟩
  obtain ⟨hz1, hB1, c10, c11, c12, c13, c14, c15⟩ := keep6 hb1 (start6 w _ _ _ _ _ _ _ )
  clear hb1
  go_wp2_with fail
  refine (near4_any x0 y0 x1 y1 true (by simp [hN.out]) _).mono ?_
  rintro e w2 ⟨rfl, hb2⟩
  obtain ⟨hz2, hB2, c20, c21, c22, c23, c24, c25⟩ := keep6 hb2 ⟨hz1, hB1, c10, c11, c12, c13, c14, c15⟩
  clear hb2 hz1 hB1 c10 c11 c12 c13 c14 c15
  go_wp2_with fail
  refine (nearPoint_any x y true (by simp [hP.out]) _).mono ?_
  rintro e w2' ⟨rfl, rfl⟩
  go_wp2
  go_ret
  exact ⟨by simp, hB2⟩

theorem anyw_lo (x0 y0 x1 y1 s x y : Int) (A : Option Addr) (c : Nat) (zs : List Int) (w : World) (hr : Hid (Reads w A zs)) (hl : Small zs) (hn : Hid (A = none → c = 0)) (hN : Hid (Near4 x0 y0 x1 y1)) (hP : Hid (Near x ∧ Near y)) (h : s < -1048576) :
    Calls Try.prog 4 #[.agg #[.int .i64 x0, .int .i64 y0, .int .i64 x1, .int .i64 y1, .int .i64 s, .slice A zs.length c], .int .i64 x, .int .i64 y] w fun e w' => e = .returned (.bool true) ∧ Below w.heap.size w w' := by
  go_enter Try.func4, Try.ntmps4
  go_wp2_with fail
  refine (box_any x0 y0 x1 y1 _).mono ?_
  rintro e w1 ⟨rfl, hb1⟩
  obtain ⟨hz1, hB1, c10, c11, c12, c13, c14, c15⟩ := keep6 hb1 (start6 w _ _ _ _ _ _ _ )
  clear hb1
  go_wp2_with fail
  refine (near4_any x0 y0 x1 y1 true (by simp [hN.out]) _).mono ?_
  rintro e w2 ⟨rfl, hb2⟩
  obtain ⟨hz2, hB2, c20, c21, c22, c23, c24, c25⟩ := keep6 hb2 ⟨hz1, hB1, c10, c11, c12, c13, c14, c15⟩
  clear hb2 hz1 hB1 c10 c11 c12 c13 c14 c15
  go_wp2_with fail
  refine (nearPoint_any x y true (by simp [hP.out]) _).mono ?_
  rintro e w2' ⟨rfl, rfl⟩
  go_wp2
  go_ret
  exact ⟨by simp, hB2⟩

theorem anyw_in (x0 y0 x1 y1 s x y : Int) (A : Option Addr) (c : Nat) (zs : List Int) (w : World) (hr : Hid (Reads w A zs)) (hl : Small zs) (hn : Hid (A = none → c = 0)) (hN : Hid (Near4 x0 y0 x1 y1)) (hP : Hid (Near x ∧ Near y)) (h1 : -1048576 ≤ s) (h2 : s ≤ 1048576) :
    Calls Try.prog 4 #[.agg #[.int .i64 x0, .int .i64 y0, .int .i64 x1, .int .i64 y1, .int .i64 s, .slice A zs.length c], .int .i64 x, .int .i64 y] w fun e w' => e = .returned (.bool true) ∧ Below w.heap.size w w' := by
  obtain ⟨b1, b2, b3, b4⟩ : -4398046511104 ≤ y - y0 ∧ y - y0 ≤ 4398046511104 ∧ -4398046511104 ≤ x - x0 ∧ x - x0 ≤ 4398046511104 := by
    obtain ⟨⟨_, _⟩, ⟨_, _⟩, _, _⟩ := hN.out
    obtain ⟨⟨_, _⟩, ⟨_, _⟩⟩ := hP.out
    omega
  obtain ⟨p1, p2⟩ : -2305843009213693952 ≤ (y - y0) * s ∧ (y - y0) * s ≤ 2305843009213693952 := by
    obtain ⟨⟨_, _⟩, ⟨_, _⟩, _, _⟩ := hN.out
    obtain ⟨⟨_, _⟩, ⟨_, _⟩⟩ := hP.out
    have := mul_bd (a := y - y0) (b := s) (A := 2199023255552) (B := 1048576) (by omega) (by omega) (by omega) (by omega)
    omega
  go_enter Try.func4, Try.ntmps4
  go_wp2_with fail
  refine (box_any x0 y0 x1 y1 _).mono ?_
  rintro e w1 ⟨rfl, hb1⟩
  obtain ⟨hz1, hB1, c10, c11, c12, c13, c14, c15⟩ := keep6 hb1 (start6 w _ _ _ _ _ _ _ )
  clear hb1
  go_wp2_with fail
  refine (near4_any x0 y0 x1 y1 true (by simp [hN.out]) _).mono ?_
  rintro e w2 ⟨rfl, hb2⟩
  obtain ⟨hz2, hB2, c20, c21, c22, c23, c24, c25⟩ := keep6 hb2 ⟨hz1, hB1, c10, c11, c12, c13, c14, c15⟩
  clear hb2 hz1 hB1 c10 c11 c12 c13 c14 c15
  go_wp2_with fail
  refine (nearPoint_any x y true (by simp [hP.out]) _).mono ?_
  rintro e w2' ⟨rfl, rfl⟩
  go_wp2
  go_region_held3 (fun w' => w.heap.size < w'.heap.size ∧ Below w.heap.size w w' ∧ w'.cell? ⟨w.heap.size, 0, none⟩ = some (.int .i64 x0) ∧ w'.cell? ⟨w.heap.size, 1, none⟩ = some (.int .i64 y0) ∧ w'.cell? ⟨w.heap.size, 2, none⟩ = some (.int .i64 x1) ∧ w'.cell? ⟨w.heap.size, 3, none⟩ = some (.int .i64 y1) ∧ w'.cell? ⟨w.heap.size, 4, none⟩ = some (.int .i64 s) ∧ w'.cell? ⟨w.heap.size, 5, none⟩ = some (.slice A zs.length c))
    (first | exact ⟨hz2, hB2.drew, c20, c21, c22, c23, c24, c25⟩ | exact keep6 (by assumption) (by assumption))
    (first | (go_at_call 18; refine (offset_any x0 y0 x1 y1 s x y A c zs _ ?_ hl hn.out b1 b2 b3 b4 p1 p2).mono ?_; exact hr.out.below (heldB (by assumption)); rintro e w8 ⟨rfl, hb8⟩) | (go_at_call 19; refine (atK_any x0 y0 x1 y1 s x y A c zs _ b1 b2 b3 b4 p1 p2).mono ?_; rintro e w9 ⟨rfl, hb9⟩))
  rename_i hS
  go_wp2
  go_ret
  exact ⟨by simp, hS.2.1⟩

theorem walk_anywhere (x0 y0 x1 y1 s x y : Int) (A : Option Addr) (c : Nat) (zs : List Int) (w : World) (hr : Hid (Reads w A zs)) (hl : Small zs) (hn : Hid (A = none → c = 0)) :
    Calls Try.prog 4 #[.agg #[.int .i64 x0, .int .i64 y0, .int .i64 x1, .int .i64 y1, .int .i64 s, .slice A zs.length c], .int .i64 x, .int .i64 y] w fun e w' => e = .returned (.bool true) ∧ Below w.heap.size w w' := by
  by_cases hN : Near4 x0 y0 x1 y1
  · by_cases hP : Near x ∧ Near y
    · by_cases h1 : 1048576 < s
      · exact anyw_hi x0 y0 x1 y1 s x y A c zs w hr hl hn hN hP h1
      · by_cases h2 : s < -1048576
        · exact anyw_lo x0 y0 x1 y1 s x y A c zs w hr hl hn hN hP h2
        · exact anyw_in x0 y0 x1 y1 s x y A c zs w hr hl hn hN hP (by omega) (by omega)
    · exact anyw_point x0 y0 x1 y1 s x y A c zs w hr hl hn hN hP
  · exact anyw_far x0 y0 x1 y1 s x y A c zs w hr hl hn hN

end Go.Proofs.Ytmhmahdojcajpaa
