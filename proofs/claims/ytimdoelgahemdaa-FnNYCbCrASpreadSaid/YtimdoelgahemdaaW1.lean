import Derived.Test.YtimdoelgahemdaaProg
import Derived.WalkKit
import Derived.WalkLawsBesides
import Derived.WalkSpells
import Derived.RegionTactic
import Derived.Deep.RegionHeld3
import Derived.Deep.QuietTactic
import Derived.BigQuiet
import Derived.Outline
import Derived.Lib.Hide
namespace Go.Proofs.Ytimdoelgahemdaa
open Go.RowKit

theorem bcell {W w1 : World} (hb : Below W.heap.size W w1) : (∀ b o, b < W.heap.size → w1.cell? ⟨b, o, none⟩ = W.cell? ⟨b, o, none⟩) ∧ (∀ b o, b < W.heap.size → w1.frozen? ⟨b, o, none⟩ = W.frozen? ⟨b, o, none⟩) :=
  ⟨fun b o h => hb.cell (p := ⟨b, o, none⟩) h, fun b o h => hb.frozen (p := ⟨b, o, none⟩) h⟩

theorem wide_any (r g b a : Int) (w : World) (h0 : 0 ≤ r) (h1 : r ≤ 65535) (h2 : 0 ≤ g) (h3 : g ≤ 65535) (h4 : 0 ≤ b) (h5 : b ≤ 65535) (h6 : 0 ≤ a) (h7 : a ≤ 65535) :
    Calls Try.prog 19 #[.int .u32 r, .int .u32 g, .int .u32 b, .int .u32 a] w fun e w' => e = .returned (.agg #[.int .u16 r, .int .u16 g, .int .u16 b, .int .u16 a]) ∧ Below w.heap.size w w' := by
  go_enter Try.func19, Try.ntmps19
  go_wp2
  exact bodyPost_ret (v := .agg #[.int .u16 r, .int .u16 g, .int .u16 b, .int .u16 a]) (by simp [results, Try.results19, go_sem]) rfl ⟨rfl, (Below.refl _ _).alloc (Nat.le_refl _) _⟩

theorem rgba20 (v : Int) (w : World) (h0 : 0 ≤ v) (h1 : v ≤ 65535) :
    Calls Try.prog 20 #[.agg #[.int .u16 v]] w fun e w' => e = .returned (.tuple #[.int .u32 v, .int .u32 v, .int .u32 v, .int .u32 v]) ∧ Below w.heap.size w w' := by
  go_enter Try.func20, Try.ntmps20
  go_wp2
  exact bodyPost_ret (v := .tuple #[.int .u32 v, .int .u32 v, .int .u32 v, .int .u32 v]) (by simp [results, Try.results20, go_sem]) rfl ⟨rfl, (Below.refl _ _).alloc (Nat.le_refl _) _⟩

theorem rgba21 (v : Int) (w : World) (h0 : 0 ≤ v) (h1 : v ≤ 65535) :
    Calls Try.prog 21 #[.agg #[.int .u16 v]] w fun e w' => e = .returned (.tuple #[.int .u32 v, .int .u32 v, .int .u32 v, .int .u32 65535]) ∧ Below w.heap.size w w' := by
  go_enter Try.func21, Try.ntmps21
  go_wp2
  exact bodyPost_ret (v := .tuple #[.int .u32 v, .int .u32 v, .int .u32 v, .int .u32 65535]) (by simp [results, Try.results21, go_sem]) rfl ⟨rfl, (Below.refl _ _).alloc (Nat.le_refl _) _⟩

theorem rgba18 (r g b a : Int) (w : World) (h0 : 0 ≤ r) (h1 : r ≤ 65535) (h2 : 0 ≤ g) (h3 : g ≤ 65535) (h4 : 0 ≤ b) (h5 : b ≤ 65535) (h6 : 0 ≤ a) (h7 : a ≤ 65535) :
    Calls Try.prog 18 #[.agg #[.int .u16 r, .int .u16 g, .int .u16 b, .int .u16 a]] w fun e w' => e = .returned (.tuple #[.int .u32 r, .int .u32 g, .int .u32 b, .int .u32 a]) ∧ Below w.heap.size w w' := by
  go_enter Try.func18, Try.ntmps18
  go_wp2
  go_quiet (fail)
  go_wp2
  exact bodyPost_ret (v := .tuple #[.int .u32 r, .int .u32 g, .int .u32 b, .int .u32 a]) (by simp [results, Try.results18, go_sem]) rfl ⟨rfl, below_drewN ((Below.refl _ _).alloc (Nat.le_refl _) _) _⟩

theorem rgba22 (r g b a : Int) (w : World) (h0 : 0 ≤ r) (h1 : r ≤ 65535) (h2 : 0 ≤ g) (h3 : g ≤ 65535) (h4 : 0 ≤ b) (h5 : b ≤ 65535) (h6 : 0 ≤ a) (h7 : a ≤ 65535) :
    Calls Try.prog 22 #[.agg #[.int .u16 r, .int .u16 g, .int .u16 b, .int .u16 a]] w fun e w' => e = .returned (.tuple #[.int .u32 (r * a / 65535), .int .u32 (g * a / 65535), .int .u32 (b * a / 65535), .int .u32 a]) ∧ Below w.heap.size w w' := by
  have r0 : 0 ≤ r * a := Int.mul_nonneg h0 h6
  have r1 : r * a ≤ 65535 * 65535 := Int.mul_le_mul h1 h7 h6 (by omega)
  have g0 : 0 ≤ g * a := Int.mul_nonneg h2 h6
  have g1 : g * a ≤ 65535 * 65535 := Int.mul_le_mul h3 h7 h6 (by omega)
  have b0 : 0 ≤ b * a := Int.mul_nonneg h4 h6
  have b1 : b * a ≤ 65535 * 65535 := Int.mul_le_mul h5 h7 h6 (by omega)
  go_enter Try.func22, Try.ntmps22
  go_wp2
  exact bodyPost_ret (v := .tuple #[.int .u32 (r * a / 65535), .int .u32 (g * a / 65535), .int .u32 (b * a / 65535), .int .u32 a]) (by simp [results, Try.results22, go_sem]) rfl ⟨rfl, (Below.refl _ _).alloc (Nat.le_refl _) _⟩

theorem spread12 (v : Int) (w : World) (h0 : 0 ≤ v) (h1 : v ≤ 65535) :
    Calls Try.prog 12 #[.int .u16 v] w fun e w' => e = .returned (.agg #[.int .u16 v, .int .u16 v, .int .u16 v, .int .u16 v]) ∧ Below w.heap.size w w' := by
  go_enter Try.func12, Try.ntmps12
  go_wp2_with fail
  refine (rgba20 v _ h0 h1).mono ?_
  rintro e w1 ⟨rfl, hb1⟩
  obtain ⟨hc, hf⟩ := bcell hb1
  have hz : w.heap.size < w1.heap.size := by have := hb1.size; simp at this; omega
  go_wp2_with fail
  refine (wide_any _ _ _ _ _ (by omega) (by omega) (by omega) (by omega) (by omega) (by omega) (by omega) (by omega)).mono ?_
  rintro e w2 ⟨rfl, hb2⟩
  obtain ⟨hc2, hf2⟩ := bcell hb2
  have hz2 : w.heap.size < w2.heap.size := by have := hb2.size; omega
  have hB : Below w.heap.size w w2 := ((Below.refl _ _).alloc (Nat.le_refl _) _).trans ((hb1.mono (by simp)).trans (hb2.mono (by omega)))
  go_wp2
  exact bodyPost_ret (v := .agg #[.int .u16 v, .int .u16 v, .int .u16 v, .int .u16 v]) (by simp [results, Try.results12, go_sem, hc, hc2, hz]) rfl ⟨rfl, (((hB.setCell (Nat.le_refl _) _).setCell (Nat.le_refl _) _).setCell (Nat.le_refl _) _).setCell (Nat.le_refl _) _⟩

theorem spread13 (v : Int) (w : World) (h0 : 0 ≤ v) (h1 : v ≤ 65535) :
    Calls Try.prog 13 #[.int .u16 v] w fun e w' => e = .returned (.agg #[.int .u16 v, .int .u16 v, .int .u16 v, .int .u16 65535]) ∧ Below w.heap.size w w' := by
  go_enter Try.func13, Try.ntmps13
  go_wp2_with fail
  refine (rgba21 v _ h0 h1).mono ?_
  rintro e w1 ⟨rfl, hb1⟩
  obtain ⟨hc, hf⟩ := bcell hb1
  have hz : w.heap.size < w1.heap.size := by have := hb1.size; simp at this; omega
  go_wp2_with fail
  refine (wide_any _ _ _ _ _ (by omega) (by omega) (by omega) (by omega) (by omega) (by omega) (by omega) (by omega)).mono ?_
  rintro e w2 ⟨rfl, hb2⟩
  obtain ⟨hc2, hf2⟩ := bcell hb2
  have hz2 : w.heap.size < w2.heap.size := by have := hb2.size; omega
  have hB : Below w.heap.size w w2 := ((Below.refl _ _).alloc (Nat.le_refl _) _).trans ((hb1.mono (by simp)).trans (hb2.mono (by omega)))
  go_wp2
  exact bodyPost_ret (v := .agg #[.int .u16 v, .int .u16 v, .int .u16 v, .int .u16 65535]) (by simp [results, Try.results13, go_sem, hc, hc2, hz]) rfl ⟨rfl, (((hB.setCell (Nat.le_refl _) _).setCell (Nat.le_refl _) _).setCell (Nat.le_refl _) _).setCell (Nat.le_refl _) _⟩

theorem scaled_le (r a : Int) (h0 : 0 ≤ r) (h1 : r ≤ 65535) (h6 : 0 ≤ a) (h7 : a ≤ 65535) : 0 ≤ r * a / 65535 ∧ r * a / 65535 ≤ a := by
  have r0 : 0 ≤ r * a := Int.mul_nonneg h0 h6
  have r1 : r * a ≤ 65535 * a := Int.mul_le_mul_of_nonneg_right h1 h6
  omega

theorem spread11 (r g b a : Int) (w : World) (h0 : 0 ≤ r) (h1 : r ≤ 65535) (h2 : 0 ≤ g) (h3 : g ≤ 65535) (h4 : 0 ≤ b) (h5 : b ≤ 65535) (h6 : 0 ≤ a) (h7 : a ≤ 65535) :
    Calls Try.prog 11 #[.agg #[.int .u16 r, .int .u16 g, .int .u16 b, .int .u16 a]] w fun e w' => e = .returned (.agg #[.int .u16 r, .int .u16 g, .int .u16 b, .int .u16 a]) ∧ Below w.heap.size w w' := by
  skip
  go_enter Try.func11, Try.ntmps11
  go_wp2_with fail
  refine (rgba18 r g b a _ h0 h1 h2 h3 h4 h5 h6 h7).mono ?_
  rintro e w1 ⟨rfl, hb1⟩
  obtain ⟨hc, hf⟩ := bcell hb1
  have hz : w.heap.size + 1 < w1.heap.size := by have := hb1.size; simp at this; omega
  go_wp2_with fail
  refine (wide_any _ _ _ _ _ (by omega) (by omega) (by omega) (by omega) (by omega) (by omega) (by omega) (by omega)).mono ?_
  rintro e w2 ⟨rfl, hb2⟩
  obtain ⟨hc2, hf2⟩ := bcell hb2
  have hz2 : w.heap.size + 1 < w2.heap.size := by have := hb2.size; omega
  have hB : Below w.heap.size w w2 := (((Below.refl _ _).alloc (Nat.le_refl _) _).alloc (by simp) _).trans ((hb1.mono (by simp; omega)).trans (hb2.mono (by omega)))
  go_wp2
  exact bodyPost_ret (v := .agg #[.int .u16 r, .int .u16 g, .int .u16 b, .int .u16 a]) (by simp [results, Try.results11, go_sem, hc, hc2, hz]) rfl ⟨rfl, (((hB.setCell (Nat.le_succ _) _).setCell (Nat.le_succ _) _).setCell (Nat.le_succ _) _).setCell (Nat.le_succ _) _⟩

theorem spread14 (r g b a : Int) (w : World) (h0 : 0 ≤ r) (h1 : r ≤ 65535) (h2 : 0 ≤ g) (h3 : g ≤ 65535) (h4 : 0 ≤ b) (h5 : b ≤ 65535) (h6 : 0 ≤ a) (h7 : a ≤ 65535) :
    Calls Try.prog 14 #[.agg #[.int .u16 r, .int .u16 g, .int .u16 b, .int .u16 a]] w fun e w' => e = .returned (.agg #[.int .u16 (r * a / 65535), .int .u16 (g * a / 65535), .int .u16 (b * a / 65535), .int .u16 a]) ∧ Below w.heap.size w w' := by
  have hr := scaled_le r a h0 h1 h6 h7; have hg := scaled_le g a h2 h3 h6 h7; have hb := scaled_le b a h4 h5 h6 h7
  go_enter Try.func14, Try.ntmps14
  go_wp2_with fail
  refine (rgba22 r g b a _ h0 h1 h2 h3 h4 h5 h6 h7).mono ?_
  rintro e w1 ⟨rfl, hb1⟩
  obtain ⟨hc, hf⟩ := bcell hb1
  have hz : w.heap.size + 1 < w1.heap.size := by have := hb1.size; simp at this; omega
  go_wp2_with fail
  refine (wide_any _ _ _ _ _ (by omega) (by omega) (by omega) (by omega) (by omega) (by omega) (by omega) (by omega)).mono ?_
  rintro e w2 ⟨rfl, hb2⟩
  obtain ⟨hc2, hf2⟩ := bcell hb2
  have hz2 : w.heap.size + 1 < w2.heap.size := by have := hb2.size; omega
  have hB : Below w.heap.size w w2 := (((Below.refl _ _).alloc (Nat.le_refl _) _).alloc (by simp) _).trans ((hb1.mono (by simp; omega)).trans (hb2.mono (by omega)))
  go_wp2
  exact bodyPost_ret (v := .agg #[.int .u16 (r * a / 65535), .int .u16 (g * a / 65535), .int .u16 (b * a / 65535), .int .u16 a]) (by simp [results, Try.results14, go_sem, hc, hc2, hz]) rfl ⟨rfl, (((hB.setCell (Nat.le_succ _) _).setCell (Nat.le_succ _) _).setCell (Nat.le_succ _) _).setCell (Nat.le_succ _) _⟩

end Go.Proofs.Ytimdoelgahemdaa
