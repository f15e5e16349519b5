/- Plain: what SubImage makes of an image; two rectangles, one after the other. -/
import Derived.Test.YtmhmahdojcajpaaPlainSub
namespace Go.Proofs.Ytmhmahdojcajpaa
open Go.RowKit
set_option linter.unusedVariables false

/-- What SubImage makes of an image and a rectangle: nothing (all zero), or the common part, with the bytes from its first pixel on. -/
def SubOf (x0 y0 x1 y1 s : Int) (zs : List Int) (a0 b0 a1 b1 X0 Y0 X1 Y1 S : Int) (zm : List Int) : Prop :=
  ((min x1 a1 ≤ max x0 a0 ∨ min y1 b1 ≤ max y0 b0) ∧ X0 = 0 ∧ Y0 = 0 ∧ X1 = 0 ∧ Y1 = 0 ∧ S = 0 ∧ zm = []) ∨
  ((max x0 a0 < min x1 a1 ∧ max y0 b0 < min y1 b1) ∧ X0 = max x0 a0 ∧ Y0 = max y0 b0 ∧ X1 = min x1 a1 ∧ Y1 = min y1 b1 ∧ S = s ∧ ∃ k : Nat, (Y0 - y0) * s + (X0 - x0) * 2 = k ∧ k + 2 ≤ zs.length ∧ zm = zs.drop k)

theorem fits_zero : Fits 0 0 0 0 0 2 0 := by
  refine ⟨⟨⟨?_, ?_, ?_, ?_⟩, ?_⟩, ?_, Or.inl (Or.inl (Int.le_refl _))⟩
  all_goals first | (unfold Near; omega) | omega

theorem SubOf.fits {x0 y0 x1 y1 s : Int} {zs : List Int} {a0 b0 a1 b1 X0 Y0 X1 Y1 S : Int} {zm : List Int} (h : SubOf x0 y0 x1 y1 s zs a0 b0 a1 b1 X0 Y0 X1 Y1 S zm) (hf : Fits x0 y0 x1 y1 s 2 zs.length) : Fits X0 Y0 X1 Y1 S 2 zm.length := by
  rcases h with ⟨_, rfl, rfl, rfl, rfl, rfl, rfl⟩ | ⟨⟨n5, n6⟩, rfl, rfl, rfl, rfl, rfl, k, hk, hkn, rfl⟩
  · exact fits_zero
  · rw [List.length_drop]
    exact fits_sub hf (within_of _ _ _ _ _ _ _ _) n5 n6 hk (by omega)
theorem SubOf.small {x0 y0 x1 y1 s : Int} {zs : List Int} {a0 b0 a1 b1 X0 Y0 X1 Y1 S : Int} {zm : List Int} (h : SubOf x0 y0 x1 y1 s zs a0 b0 a1 b1 X0 Y0 X1 Y1 S zm) (hl : Small zs) : Small zm := by
  rcases h with ⟨_, _, _, _, _, _, rfl⟩ | ⟨_, _, _, _, _, _, k, _, _, rfl⟩
  · exact Nat.zero_le _
  · exact drop_small hl k
theorem SubOf.bytes {x0 y0 x1 y1 s : Int} {zs : List Int} {a0 b0 a1 b1 X0 Y0 X1 Y1 S : Int} {zm : List Int} (h : SubOf x0 y0 x1 y1 s zs a0 b0 a1 b1 X0 Y0 X1 Y1 S zm) (hy : Bytes zs) : Bytes zm := by
  rcases h with ⟨_, _, _, _, _, _, rfl⟩ | ⟨_, _, _, _, _, _, k, _, _, rfl⟩
  · intro z hz; simp at hz
  · exact drop_bytes hy k

theorem subsub_none {x0 y0 x1 y1 s : Int} {zs : List Int} {a0 b0 a1 b1 e0 f0 e1 f1 X0 Y0 X1 Y1 S U0 V0 U1 V1 T : Int} {z1 z2 : List Int} (h1 : SubOf x0 y0 x1 y1 s zs a0 b0 a1 b1 X0 Y0 X1 Y1 S z1) (h2 : SubOf X0 Y0 X1 Y1 S z1 e0 f0 e1 f1 U0 V0 U1 V1 T z2)
    (hE : min a1 e1 ≤ max a0 e0 ∨ min b1 f1 ≤ max b0 f0) : Empt U0 V0 U1 V1 := by
  unfold Empt
  rcases h2 with ⟨_, rfl, rfl, rfl, rfl, _⟩ | ⟨⟨m1, m2⟩, _⟩
  · omega
  · rcases h1 with ⟨_, rfl, rfl, rfl, rfl, _⟩ | ⟨_, rfl, rfl, rfl, rfl, _⟩ <;> omega

theorem mx3 (x a e : Int) : max x (max a e) = max (max x a) e := by omega
theorem mn3 (x a e : Int) : min x (min a e) = min (min x a) e := by omega
theorem subsub_some {x0 y0 x1 y1 s : Int} {zs : List Int} {a0 b0 a1 b1 e0 f0 e1 f1 X0 Y0 X1 Y1 S U0 V0 U1 V1 T P0 Q0 P1 Q1 R : Int} {z1 z2 z3 : List Int} (h1 : SubOf x0 y0 x1 y1 s zs a0 b0 a1 b1 X0 Y0 X1 Y1 S z1) (h2 : SubOf X0 Y0 X1 Y1 S z1 e0 f0 e1 f1 U0 V0 U1 V1 T z2)
    (h3 : SubOf x0 y0 x1 y1 s zs (max a0 e0) (max b0 f0) (min a1 e1) (min b1 f1) P0 Q0 P1 Q1 R z3) :
    (Empt U0 V0 U1 V1 ∧ Empt P0 Q0 P1 Q1) ∨ (¬ Empt U0 V0 U1 V1 ∧ ¬ Empt P0 Q0 P1 Q1 ∧ P0 = U0 ∧ Q0 = V0 ∧ P1 = U1 ∧ Q1 = V1 ∧ R = T ∧ z3 = z2) := by
  unfold SubOf at h1 h2 h3
  rw [mx3, mx3, mn3, mn3] at h3
  unfold Empt
  rcases h1 with ⟨m1, rfl, rfl, rfl, rfl, rfl, rfl⟩ | ⟨⟨m1, m2⟩, rfl, rfl, rfl, rfl, rfl, k1, hk1, hn1, rfl⟩
  · refine Or.inl ⟨?_, ?_⟩
    · rcases h2 with ⟨_, rfl, rfl, rfl, rfl, _⟩ | ⟨⟨m3, _⟩, _⟩
      · exact Or.inl (Int.le_refl _)
      · clear m1 h3; omega
    · clear h2
      generalize max x0 a0 = p0, max y0 b0 = q0, min x1 a1 = p1, min y1 b1 = q1 at *
      rcases h3 with ⟨_, rfl, rfl, rfl, rfl, _⟩ | ⟨⟨m3, m4⟩, _⟩
      · exact Or.inl (Int.le_refl _)
      · omega
  · generalize max x0 a0 = p0, max y0 b0 = q0, min x1 a1 = p1, min y1 b1 = q1 at *
    generalize max p0 e0 = r0, max q0 f0 = t0, min p1 e1 = r1, min q1 f1 = t1 at *
    rcases h2 with ⟨m3, rfl, rfl, rfl, rfl, rfl, rfl⟩ | ⟨⟨m3, m4⟩, rfl, rfl, rfl, rfl, rfl, k2, hk2, hn2, rfl⟩
    · refine Or.inl ⟨Or.inl (Int.le_refl _), ?_⟩
      rcases h3 with ⟨_, rfl, rfl, rfl, rfl, _⟩ | ⟨⟨m5, m6⟩, _⟩
      · exact Or.inl (Int.le_refl _)
      · omega
    · rcases h3 with ⟨m5, _⟩ | ⟨⟨m5, m6⟩, rfl, rfl, rfl, rfl, rfl, k3, hk3, hn3, rfl⟩
      · omega
      · refine Or.inr ⟨by omega, by omega, rfl, rfl, rfl, rfl, rfl, ?_⟩
        rw [List.drop_drop]
        congr 1
        rw [offs_split p0 q0 x0 y0, hk1, hk2] at hk3
        omega

end Go.Proofs.Ytmhmahdojcajpaa
