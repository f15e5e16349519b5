import Derived.Test.YtimdoelgahemdaaW1
import Derived.Test.YtimdoelgahemdaaW2
import Derived.Test.YtimdoelgahemdaaW3
import Derived.WalkKit
import Derived.WalkLawsBesides
import Derived.WalkSpells
import Derived.RegionTactic
import Derived.Deep.RegionHeld3
import Derived.Deep.QuietTactic
import Derived.BigQuiet
import Derived.Outline
import Derived.Lib.Hide
namespace Go.Proofs.Ytimdoelgahemdaa
open Go.RowKit


theorem walk10 (y cb cr a : Int) (w : World) (h0 : 0 ≤ y) (h1 : y ≤ 255) (h2 : 0 ≤ cb) (h3 : cb ≤ 255) (h4 : 0 ≤ cr) (h5 : cr ≤ 255) (h6 : 0 ≤ a) (h7 : a ≤ 255) :
    Calls Try.prog 10 #[.agg #[.int .u8 y, .int .u8 cb, .int .u8 cr, .int .u8 a]] w fun e w' => e = .returned (.bool true) ∧ Below w.heap.size w w' := by
  have hr := outc_in (y * 65793 + 91881 * (cr - 128)) a (by omega) (by omega) h6 h7
  have hg := outc_in (y * 65793 - 22554 * (cb - 128) - 46802 * (cr - 128)) a (by omega) (by omega) h6 h7
  have hb := outc_in (y * 65793 + 116130 * (cb - 128)) a (by omega) (by omega) h6 h7
  have ez : (a * 257 == 0) = (a == 0) := by rw [Bool.eq_iff_iff]; simp; omega
  go_enter Try.func10, Try.ntmps10
  go_wp2_with fail
  refine (spread17 y cb cr a _ h0 h1 h2 h3 h4 h5 h6 h7).mono ?_
  rintro e w1 ⟨rfl, hb1⟩
  generalize outc (y * 65793 + 91881 * (cr - 128)) a = xr at *
  generalize outc (y * 65793 - 22554 * (cb - 128) - 46802 * (cr - 128)) a = xg at *
  generalize outc (y * 65793 + 116130 * (cb - 128)) a = xb at *
  obtain ⟨hc, hf⟩ := bcell hb1
  have hz : w.heap.size < w1.heap.size := by have := hb1.size; simp at this; omega
  go_wp2_with fail
  refine (valid16 _ _ _ _ _ hr.2 hg.2 hb.2).mono ?_
  rintro e w2 ⟨rfl, hb2⟩
  obtain ⟨hc2, hf2⟩ := bcell hb2
  have hz2 : w.heap.size < w2.heap.size := by have := hb2.size; simp at this; omega
  have hB : Below w.heap.size w w2 := (((Below.refl _ _).alloc (Nat.le_refl _) _).trans (hb1.mono (by simp))).trans (((Below.refl _ _).alloc (by omega) _).trans (hb2.mono (by simp; omega)))
  go_wp2
  go_ret
  exact ⟨by simp, hB⟩

theorem walk9a (y cb cr a : Int) (w : World) (h0 : 0 ≤ y) (h1 : y ≤ 255) (h2 : 0 ≤ cb) (h3 : cb ≤ 255) (h4 : 0 ≤ cr) (h5 : cr ≤ 255) (h6 : 0 ≤ a) (h7 : a ≤ 255) (ecb : (cb != 128) = true) :
    Calls Try.prog 9 #[.agg #[.int .u8 y, .int .u8 cb, .int .u8 cr, .int .u8 a]] w fun e w' => e = .returned (.bool true) ∧ Below w.heap.size w w' := by
  have ez : (a * 257 != a * 257) = false := by simp
  go_enter Try.func9, Try.ntmps9
  go_wp2_with fail
  refine (spread17 y cb cr a _ h0 h1 h2 h3 h4 h5 h6 h7).mono ?_
  rintro e w1 ⟨rfl, hb1⟩
  generalize outc (y * 65793 + 91881 * (cr - 128)) a = xr at *
  generalize outc (y * 65793 - 22554 * (cb - 128) - 46802 * (cr - 128)) a = xg at *
  generalize outc (y * 65793 + 116130 * (cb - 128)) a = xb at *
  have hB : Below w.heap.size w w1 := ((Below.refl _ _).alloc (Nat.le_refl _) _).trans (hb1.mono (by simp))
  obtain ⟨hc, hf⟩ := bcell hb1
  have hz : w.heap.size < w1.heap.size := by have := hb1.size; simp at this; omega
  go_wp2
  go_ret
  exact ⟨by simp, hB.alloc (by omega) _⟩

theorem walk9b (y cb cr a : Int) (w : World) (h0 : 0 ≤ y) (h1 : y ≤ 255) (h2 : 0 ≤ cb) (h3 : cb ≤ 255) (h4 : 0 ≤ cr) (h5 : cr ≤ 255) (h6 : 0 ≤ a) (h7 : a ≤ 255) (ecb : (cb != 128) = false) (ecr : (cr != 128) = true) :
    Calls Try.prog 9 #[.agg #[.int .u8 y, .int .u8 cb, .int .u8 cr, .int .u8 a]] w fun e w' => e = .returned (.bool true) ∧ Below w.heap.size w w' := by
  have ez : (a * 257 != a * 257) = false := by simp
  go_enter Try.func9, Try.ntmps9
  go_wp2_with fail
  refine (spread17 y cb cr a _ h0 h1 h2 h3 h4 h5 h6 h7).mono ?_
  rintro e w1 ⟨rfl, hb1⟩
  generalize outc (y * 65793 + 91881 * (cr - 128)) a = xr at *
  generalize outc (y * 65793 - 22554 * (cb - 128) - 46802 * (cr - 128)) a = xg at *
  generalize outc (y * 65793 + 116130 * (cb - 128)) a = xb at *
  have hB : Below w.heap.size w w1 := ((Below.refl _ _).alloc (Nat.le_refl _) _).trans (hb1.mono (by simp))
  obtain ⟨hc, hf⟩ := bcell hb1
  have hz : w.heap.size < w1.heap.size := by have := hb1.size; simp at this; omega
  go_wp2
  go_ret
  exact ⟨by simp, hB.alloc (by omega) _⟩

/-- A color without chroma is a gray, told of the three channels at once. -/
theorem spread17g (y a : Int) (w : World) (h0 : 0 ≤ y) (h1 : y ≤ 255) (h6 : 0 ≤ a) (h7 : a ≤ 255) :
    Calls Try.prog 17 #[.agg #[.int .u8 y, .int .u8 128, .int .u8 128, .int .u8 a]] w fun e w' => e = .returned (.agg #[.int .u16 (outc (y * 65793) a), .int .u16 (outc (y * 65793) a), .int .u16 (outc (y * 65793) a), .int .u16 (a * 257)]) ∧ Below w.heap.size w w' := by
  refine (spread17 y 128 128 a w h0 h1 (by omega) (by omega) (by omega) (by omega) h6 h7).mono ?_
  rintro e w1 ⟨rfl, hb1⟩
  have e1 : outc (y * 65793 + 91881 * (128 - 128)) a = outc (y * 65793) a := by congr 1; omega
  have e2 : outc (y * 65793 - 22554 * (128 - 128) - 46802 * (128 - 128)) a = outc (y * 65793) a := by congr 1; omega
  have e3 : outc (y * 65793 + 116130 * (128 - 128)) a = outc (y * 65793) a := by congr 1; omega
  rw [e1, e2, e3]
  exact ⟨rfl, hb1⟩

theorem walk9c (y a : Int) (w : World) (h0 : 0 ≤ y) (h1 : y ≤ 255) (h6 : 0 ≤ a) (h7 : a ≤ 255) (ea : (a != 255) = true) :
    Calls Try.prog 9 #[.agg #[.int .u8 y, .int .u8 128, .int .u8 128, .int .u8 a]] w fun e w' => e = .returned (.bool true) ∧ Below w.heap.size w w' := by
  have ez : (a * 257 != a * 257) = false := by simp
  go_enter Try.func9, Try.ntmps9
  go_wp2_with fail
  refine (spread17g y a _ h0 h1 h6 h7).mono ?_
  rintro e w1 ⟨rfl, hb1⟩
  generalize outc (y * 65793) a = xr at *
  have hB : Below w.heap.size w w1 := ((Below.refl _ _).alloc (Nat.le_refl _) _).trans (hb1.mono (by simp))
  obtain ⟨hc, hf⟩ := bcell hb1
  have hz : w.heap.size < w1.heap.size := by have := hb1.size; simp at this; omega
  go_wp2
  go_ret
  exact ⟨by simp, hB.alloc (by omega) _⟩

theorem walk9d (y : Int) (w : World) (h0 : 0 ≤ y) (h1 : y ≤ 255) :
    Calls Try.prog 9 #[.agg #[.int .u8 y, .int .u8 128, .int .u8 128, .int .u8 255]] w fun e w' => e = .returned (.bool true) ∧ Below w.heap.size w w' := by
  have ez : (y * 257 == y * 257) = true := by simp
  have key := fun w => spread17g y 255 w h0 h1 (by omega) (by omega)
  rw [outc_full _ y h0 h1 rfl] at key
  have K := Lib.hid key
  clear key
  go_enter Try.func9, Try.ntmps9
  go_wp2_with fail
  refine (K.out _).mono ?_
  rintro e w1 ⟨rfl, hb1⟩
  have hB : Below w.heap.size w w1 := ((Below.refl _ _).alloc (Nat.le_refl _) _).trans (hb1.mono (by simp))
  obtain ⟨hc, hf⟩ := bcell hb1
  have hz : w.heap.size < w1.heap.size := by have := hb1.size; simp at this; omega
  go_wp2
  go_ret
  exact ⟨by simp, hB.alloc (by omega) _⟩

theorem walk9 (y cb cr a : Int) (w : World) (h0 : 0 ≤ y) (h1 : y ≤ 255) (h2 : 0 ≤ cb) (h3 : cb ≤ 255) (h4 : 0 ≤ cr) (h5 : cr ≤ 255) (h6 : 0 ≤ a) (h7 : a ≤ 255) :
    Calls Try.prog 9 #[.agg #[.int .u8 y, .int .u8 cb, .int .u8 cr, .int .u8 a]] w fun e w' => e = .returned (.bool true) ∧ Below w.heap.size w w' := by
  by_cases hcb : cb = 128
  · by_cases hcr : cr = 128
    · subst hcb
      subst hcr
      by_cases ha : a = 255
      · subst ha
        exact walk9d y w h0 h1
      · exact walk9c y a w h0 h1 h6 h7 (by simpa using ha)
    · exact walk9b y cb cr a w h0 h1 h2 h3 h4 h5 h6 h7 (by simpa using hcb) (by simpa using hcr)
  · exact walk9a y cb cr a w h0 h1 h2 h3 h4 h5 h6 h7 (by simpa using hcb)
end Go.Proofs.Ytimdoelgahemdaa
