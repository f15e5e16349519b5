/- Plain: a part of an image that fits. -/
import Derived.Test.YtkhgobeeaiagfaaMem
namespace Go.Proofs.Ytkhgobeeaiagfaa
open Go.RowKit
set_option linter.unusedVariables false

/-- A rectangle within another one. -/
def Within (c0 d0 c1 d1 x0 y0 x1 y1 : Int) : Prop := x0 ≤ c0 ∧ y0 ≤ d0 ∧ c1 ≤ x1 ∧ d1 ≤ y1
theorem offs_split (c0 d0 x0 y0 s x y : Int) : (y - y0) * s + (x - x0) * 1 = ((d0 - y0) * s + (c0 - x0) * 1) + ((y - d0) * s + (x - c0) * 1) := by
  have e : (y - y0) * s = (d0 - y0) * s + (y - d0) * s := by rw [← Int.add_mul]; congr 1; omega
  omega
/-- The part of an image that fits fits, too, in what is left of the bytes from its first pixel on. -/
theorem fits_sub {x0 y0 x1 y1 s c0 d0 c1 d1 : Int} {n k : Nat} (h : Fits x0 y0 x1 y1 s 1 n) (hw : Within c0 d0 c1 d1 x0 y0 x1 y1) (hc : c0 < c1) (hd : d0 < d1) (hk : (d0 - y0) * s + (c0 - x0) * 1 = k) (hkn : k ≤ n) : Fits c0 d0 c1 d1 s 1 ((n - k : Nat) : Int) := by
  obtain ⟨⟨⟨⟨p1, p2⟩, ⟨p3, p4⟩, ⟨p5, p6⟩, ⟨p7, p8⟩⟩, g1, g2, g3, g4, g5⟩, hs, hE⟩ := h
  obtain ⟨w1, w2, w3, w4⟩ := hw
  have hp : (c1 - c0) * (d1 - d0) ≤ 65536 := by
    have e1 : (c1 - c0) * (d1 - d0) ≤ (x1 - x0) * (d1 - d0) := Int.mul_le_mul_of_nonneg_right (by omega) (by omega)
    have e2 : (x1 - x0) * (d1 - d0) ≤ (x1 - x0) * (y1 - y0) := Int.mul_le_mul_of_nonneg_left (by omega) (by omega)
    omega
  refine ⟨⟨⟨⟨by omega, by omega⟩, ⟨by omega, by omega⟩, ⟨by omega, by omega⟩, ⟨by omega, by omega⟩⟩, by omega, by omega, by omega, by omega, hp⟩, hs, Or.inr ?_⟩
  rcases hE with hE | ⟨h1, h2⟩
  · unfold Empt at hE; omega
  by_cases e : y1 - 1 = y0
  · have e0 : d1 - 1 - d0 = 0 := by omega
    have e1 : d0 - y0 = 0 := by omega
    have e2 : y1 - 1 - y0 = 0 := by omega
    rw [e0]; rw [e1] at hk; rw [e2] at h2
    omega
  · have hpos : 0 ≤ s := by
      by_cases hn : 0 ≤ s
      · exact hn
      · have := Int.mul_neg_of_pos_of_neg (a := y1 - 1 - y0) (b := s) (by omega) (by omega)
        omega
    have q0 : 0 ≤ (d1 - 1 - d0) * s := Int.mul_nonneg (by omega) hpos
    have q1 : (d1 - 1 - y0) * s ≤ (y1 - 1 - y0) * s := Int.mul_le_mul_of_nonneg_right (by omega) hpos
    have q2 : (d1 - 1 - y0) * s = (d0 - y0) * s + (d1 - 1 - d0) * s := by rw [← Int.add_mul]; congr 1; omega
    omega
theorem Within.insd {c0 d0 c1 d1 x0 y0 x1 y1 x y : Int} (hw : Within c0 d0 c1 d1 x0 y0 x1 y1) (hi : Insd c0 d0 c1 d1 x y) : Insd x0 y0 x1 y1 x y := by
  obtain ⟨_, _, _, _⟩ := hw
  obtain ⟨_, _, _, _⟩ := hi
  exact ⟨by omega, by omega, by omega, by omega⟩
theorem within_of (x0 y0 x1 y1 a0 b0 a1 b1 : Int) : Within (max x0 a0) (max y0 b0) (min x1 a1) (min y1 b1) x0 y0 x1 y1 := ⟨by omega, by omega, by omega, by omega⟩
theorem getD_drop (zs : List Int) (k j : Nat) : (zs.drop k).getD j 0 = zs.getD (k + j) 0 := by simp [List.getD_eq_getElem?_getD, List.getElem?_drop]
theorem drop_bytes {zs : List Int} (h : Bytes zs) (k : Nat) : Bytes (zs.drop k) := fun z hz => h z (List.mem_of_mem_drop hz)
theorem drop_small {zs : List Int} (h : Small zs) (k : Nat) : Small (zs.drop k) := by unfold Small at *; rw [List.length_drop]; omega

end Go.Proofs.Ytkhgobeeaiagfaa
