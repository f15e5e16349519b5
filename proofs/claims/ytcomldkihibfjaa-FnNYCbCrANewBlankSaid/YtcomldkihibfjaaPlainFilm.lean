/- Films, plain: the part of a film; impl.NYCbCrAAt at a pixel whose samples are there. -/
import Derived.Test.YtcomldkihibfjaaFilmLaw
import Derived.Test.YtcomldkihibfjaaFilmAt2
import Derived.Test.YtcomldkihibfjaaPlainSub
namespace Go.Proofs.Ytcomldkihibfjaa
open Go.RowKit
set_option linter.unusedVariables false
set_option linter.unusedSimpArgs false

/-- The samples of all pixels are there. -/
def AllT (x0 y0 x1 y1 rt ys cs at4 : Int) (k1 k2 k3 k4 : Nat) : Prop := ∀ x y, Insd x0 y0 x1 y1 x y → Ther x0 y0 rt ys cs at4 k1 k2 k3 k4 x y
theorem fair_within {x0 y0 x1 y1 c0 d0 c1 d1 : Int} (h : Fair x0 y0 x1 y1) (hw : Within c0 d0 c1 d1 x0 y0 x1 y1) (hc : c0 ≤ c1) (hd : d0 ≤ d1) : Fair c0 d0 c1 d1 := by
  obtain ⟨⟨⟨p1, p2⟩, ⟨p3, p4⟩, ⟨p5, p6⟩, ⟨p7, p8⟩⟩, g1, g2, g3, g4, g5⟩ := h
  obtain ⟨w1, w2, w3, w4⟩ := hw
  have hp : (c1 - c0) * (d1 - d0) ≤ 65536 := by
    have e1 : (c1 - c0) * (d1 - d0) ≤ (x1 - x0) * (d1 - d0) := Int.mul_le_mul_of_nonneg_right (by omega) (by omega)
    have e2 : (x1 - x0) * (d1 - d0) ≤ (x1 - x0) * (y1 - y0) := Int.mul_le_mul_of_nonneg_left (by omega) (by omega)
    omega
  exact ⟨⟨⟨by omega, by omega⟩, ⟨by omega, by omega⟩, ⟨by omega, by omega⟩, ⟨by omega, by omega⟩⟩, by omega, by omega, by omega, by omega, hp⟩
theorem stW_pos (rt : Int) : 0 < stW rt := by unfold stW; split; omega; split; omega; omega
theorem stH_pos (rt : Int) : 0 < stH rt := by unfold stH; split; omega; omega
theorem nonneg_of {a b : Int} (h : 0 ≤ a * b) (ha : 0 < a) : 0 ≤ b := by
  by_cases hb : 0 ≤ b
  · exact hb
  · have := Int.mul_neg_of_pos_of_neg ha (by omega : b < 0)
    omega
/-- A row's offset splits, and what is behind the first pixel of the part is not negative. -/
theorem split_off {Y0 Y D S X0 X C : Int} (hD : Y0 ≤ D) (hY : D ≤ Y) (hX : C ≤ X) (h0 : 0 ≤ (Y - Y0) * S) :
    0 ≤ (Y - D) * S + (X - C) ∧ (Y - Y0) * S + (X - X0) = ((D - Y0) * S + (C - X0)) + ((Y - D) * S + (X - C)) := by
  have e : (Y - Y0) * S = (D - Y0) * S + (Y - D) * S := by rw [← Int.add_mul]; congr 1; omega
  refine ⟨?_, by omega⟩
  by_cases hd : Y = D
  · subst hd
    rw [Int.sub_self, Int.zero_mul]; omega
  · have hs : 0 ≤ S := nonneg_of h0 (by omega)
    have := Int.mul_nonneg (a := Y - D) (b := S) (by omega) hs
    omega
theorem sub_there {x0 y0 x1 y1 rt ys cs at4 c0 d0 c1 d1 x y : Int} {n1 n2 n3 n4 k1 k2 k4 : Nat} (hA : AllT x0 y0 x1 y1 rt ys cs at4 n1 n2 n3 n4) (hw : Within c0 d0 c1 d1 x0 y0 x1 y1) (hi : Insd c0 d0 c1 d1 x y)
    (K1 : (d0 - y0) * ys + (c0 - x0) = k1) (K2 : chr x0 y0 rt cs c0 d0 = k2) (K4 : (d0 - y0) * at4 + (c0 - x0) = k4) :
    Ther c0 d0 rt ys cs at4 (n1 - k1) (n2 - k2) (n3 - k2) (n4 - k4) x y ∧
    (y - y0) * ys + (x - x0) = k1 + ((y - d0) * ys + (x - c0)) ∧ chr x0 y0 rt cs x y = k2 + chr c0 d0 rt cs x y ∧ (y - y0) * at4 + (x - x0) = k4 + ((y - d0) * at4 + (x - c0)) := by
  have hi' := hw.insd hi
  have hT := hA x y hi'
  obtain ⟨w1, w2, w3, w4⟩ := hw
  obtain ⟨i1, i2, i3, i4⟩ := hi
  have hL := hA x0 y ⟨Int.le_refl _, by omega, by omega, by omega⟩
  have b1 := hL.y0'
  have b2 := hL.c0'
  have b3 := hL.a0'
  unfold chr at b2
  rw [Int.sub_self, Int.add_zero] at b1 b2 b3
  have s1 := split_off (X0 := x0) w2 i3 i1 b1
  have s3 := split_off (X0 := x0) w2 i3 i1 b3
  have s2 := split_off (X0 := x0 / stW rt) (X := x / stW rt) (C := c0 / stW rt) (D := d0 / stH rt) (Int.ediv_le_ediv (stH_pos rt) w2) (Int.ediv_le_ediv (stH_pos rt) i3) (Int.ediv_le_ediv (stW_pos rt) i1) b2
  have e2 : chr x0 y0 rt cs x y = chr x0 y0 rt cs c0 d0 + chr c0 d0 rt cs x y := s2.2
  have p2 : 0 ≤ chr c0 d0 rt cs x y := s2.1
  obtain ⟨t1, t2, t3, t4, t5, t6, t7⟩ := hT
  refine ⟨⟨s1.1, ?_, p2, ?_, ?_, s3.1, ?_⟩, ?_, ?_, ?_⟩ <;> omega
theorem okay_sub {x0 y0 x1 y1 rt ys cs at4 c0 d0 c1 d1 x y : Int} (hF : FairF x0 y0 x1 y1 ys cs at4) (r0 : 0 ≤ rt) (r5 : rt ≤ 5) (m1 : 0 ≤ x0) (m2 : 0 ≤ y0) (hw : Within c0 d0 c1 d1 x0 y0 x1 y1) (hi : Insd c0 d0 c1 d1 x y) : Okay c0 d0 c1 d1 rt ys cs at4 x y :=
  ⟨⟨fair_within hF.1 hw (by obtain ⟨_, _, _, _⟩ := hi; omega) (by obtain ⟨_, _, _, _⟩ := hi; omega), hF.2⟩, hi, r0, r5, by have := hw.1; omega, by have := hw.2.1; omega⟩
theorem getD_split (zs : List Int) {a b : Int} {k : Nat} (h : a = k + b) (hb : 0 ≤ b) : (zs.drop k).getD b.toNat 0 = zs.getD a.toNat 0 := by
  rw [getD_drop, show a.toNat = k + b.toNat by omega]

theorem implAt_there (x0 y0 x1 y1 rt ys cs at4 : Int) (A1 A2 A3 A4 : Option Addr) (c1 c2 c3 c4 : Nat) (z1 z2 z3 z4 : List Int) (x y : Int) (w : World) (hr1 : Hid (Reads w A1 z1)) (hl1 : Small z1) (hn1 : Hid (A1 = none → c1 = 0)) (hr2 : Hid (Reads w A2 z2)) (hl2 : Small z2) (hn2 : Hid (A2 = none → c2 = 0)) (hr3 : Hid (Reads w A3 z3)) (hl3 : Small z3) (hn3 : Hid (A3 = none → c3 = 0)) (hr4 : Hid (Reads w A4 z4)) (hl4 : Small z4) (hn4 : Hid (A4 = none → c4 = 0)) (hO : Hid (Okay x0 y0 x1 y1 rt ys cs at4 x y)) (hT : Hid (Ther x0 y0 rt ys cs at4 z1.length z2.length z3.length z4.length x y)) :
    Calls Try.prog 21 #[.agg #[.int .i64 x0, .int .i64 y0, .int .i64 x1, .int .i64 y1, .int .i64 rt, .int .i64 ys, .int .i64 cs, .int .i64 at4, .slice A1 z1.length c1, .slice A2 z2.length c2, .slice A3 z3.length c3, .slice A4 z4.length c4], .int .i64 x, .int .i64 y] w fun e w' => e = .returned (.agg #[.int .u8 (z1.getD ((y - y0) * ys + (x - x0)).toNat 0), .int .u8 (z2.getD (chr x0 y0 rt cs x y).toNat 0), .int .u8 (z3.getD (chr x0 y0 rt cs x y).toNat 0), .int .u8 (z4.getD ((y - y0) * at4 + (x - x0)).toNat 0)]) ∧ Below w.heap.size w w' := by
  have hI : Hid (Insd x0 y0 x1 y1 x y) := hO.out.insd
  obtain ⟨k1, K1⟩ : ∃ k : Nat, (y - y0) * ys + (x - x0) = k := ⟨((y - y0) * ys + (x - x0)).toNat, by have := hT.out.y0'; omega⟩
  obtain ⟨k2, K2⟩ : ∃ k : Nat, chr x0 y0 rt cs x y = k := ⟨(chr x0 y0 rt cs x y).toNat, by have := hT.out.c0'; omega⟩
  obtain ⟨k4, K4⟩ : ∃ k : Nat, (y - y0) * at4 + (x - x0) = k := ⟨((y - y0) * at4 + (x - x0)).toNat, by have := hT.out.a0'; omega⟩
  have hk1 : k1 < z1.length := by have := hT.out.y1'; omega
  have hk2 : k2 < z2.length := by have := hT.out.c1'; omega
  have hk3 : k2 < z3.length := by have := hT.out.c2'; omega
  have hk4 : k4 < z4.length := by have := hT.out.a1'; omega
  obtain ⟨v1, E1⟩ : ∃ v, z1.getD k1 0 = v := ⟨_, rfl⟩
  replace E1 := Lib.hid E1
  obtain ⟨v2, E2⟩ : ∃ v, z2.getD k2 0 = v := ⟨_, rfl⟩
  replace E2 := Lib.hid E2
  obtain ⟨v3, E3⟩ : ∃ v, z3.getD k2 0 = v := ⟨_, rfl⟩
  replace E3 := Lib.hid E3
  obtain ⟨v4, E4⟩ : ∃ v, z4.getD k4 0 = v := ⟨_, rfl⟩
  replace E4 := Lib.hid E4
  obtain ⟨_, _, _, _, _, _, w1', w2', w3', w4'⟩ := hO.out.nums
  obtain ⟨⟨p1, p2⟩, p3, p4⟩ := hO.out.prods
  replace K1 := Lib.hid K1
  replace K2 := Lib.hid K2
  replace K4 := Lib.hid K4
  have KC : Hid (∀ (g : Nat) (A1 A2 A3 A4 : Option Addr) (c1 c2 c3 c4 : Nat) (W : World), W.heap[g]? = some (.cells #[.slice A1 z1.length c1, .slice A2 z2.length c2, .slice A3 z3.length c3, .int .i64 ys, .int .i64 cs, .int .i64 rt, .int .i64 x0, .int .i64 y0, .int .i64 x1, .int .i64 y1, .slice A4 z4.length c4, .int .i64 at4] 83 (0, 0)) → Calls Try.prog 52 #[.pointer (some ⟨g, 0, none⟩), .int .i64 x, .int .i64 y] W fun e w' => e = .returned (.int .i64 (k2 : Int)) ∧ ∃ n, w' = W.drewN n) := fun g A1 A2 A3 A4 c1 c2 c3 c4 W hW => by
    have := cOffset_any g x0 y0 x1 y1 rt ys cs at4 A1 A2 A3 A4 c1 c2 c3 c4 z1 z2 z3 z4 x y W hW hO
    rw [K2.out] at this
    exact this
  have h := implAt_in x0 y0 x1 y1 rt ys cs at4 A1 A2 A3 A4 c1 c2 c3 c4 z1 z2 z3 z4 x y w hr1 hl1 hn1 hr2 hl2 hn2 hr3 hl3 hn3 hr4 hl4 hn4 k1 k2 k4 v1 v2 v3 v4 E1 E2 E3 E4 hI w1' w2' w3' w4' p1 p2 p3 p4 K1 K4 hk1 hk2 hk3 hk4 KC
  rw [K1.out, K2.out, K4.out, Int.toNat_natCast, Int.toNat_natCast, Int.toNat_natCast, E1.out, E2.out, E3.out, E4.out]
  exact h

end Go.Proofs.Ytcomldkihibfjaa
