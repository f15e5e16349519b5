import Derived.Test.YtimdoelgahemdaaW1
import Derived.WalkKit
import Derived.WalkLawsBesides
import Derived.WalkSpells
import Derived.RegionTactic
import Derived.Deep.RegionHeld3
import Derived.Deep.QuietTactic
import Derived.BigQuiet
import Derived.Outline
import Derived.Lib.Hide
namespace Go.Proofs.Ytimdoelgahemdaa
open Go.RowKit


theorem walk4 (v : Int) (w : World) (h0 : 0 ≤ v) (h1 : v ≤ 65535) :
    Calls Try.prog 4 #[.int .u16 v] w fun e w' => e = .returned (.bool true) ∧ Below w.heap.size w w' := by
  go_enter Try.func4, Try.ntmps4
  go_wp2_with fail
  refine (spread12 v _ h0 h1).mono ?_
  rintro e w1 ⟨rfl, hb1⟩
  go_wp2
  go_ret
  exact ⟨by simp, hb1⟩
theorem walk5 (v : Int) (w : World) (h0 : 0 ≤ v) (h1 : v ≤ 65535) :
    Calls Try.prog 5 #[.int .u16 v] w fun e w' => e = .returned (.bool true) ∧ Below w.heap.size w w' := by
  go_enter Try.func5, Try.ntmps5
  go_wp2_with fail
  refine (spread13 v _ h0 h1).mono ?_
  rintro e w1 ⟨rfl, hb1⟩
  go_wp2
  go_ret
  exact ⟨by simp, hb1⟩
theorem walk3 (r g b a : Int) (w : World) (h0 : 0 ≤ r) (h1 : r ≤ 65535) (h2 : 0 ≤ g) (h3 : g ≤ 65535) (h4 : 0 ≤ b) (h5 : b ≤ 65535) (h6 : 0 ≤ a) (h7 : a ≤ 65535) :
    Calls Try.prog 3 #[.agg #[.int .u16 r, .int .u16 g, .int .u16 b, .int .u16 a]] w fun e w' => e = .returned (.bool true) ∧ Below w.heap.size w w' := by
  go_enter Try.func3, Try.ntmps3
  go_wp2
  go_region_held3 (fun w' => Below w.heap.size w w' ∧ w'.cell? ⟨w.heap.size, 0, none⟩ = some (.int .u16 r) ∧ w'.cell? ⟨w.heap.size, 1, none⟩ = some (.int .u16 g) ∧ w'.cell? ⟨w.heap.size, 2, none⟩ = some (.int .u16 b) ∧ w'.cell? ⟨w.heap.size, 3, none⟩ = some (.int .u16 a))
    (first | exact ⟨((Below.refl _ _).alloc (Nat.le_refl _) _).drew, by simp, by simp, by simp, by simp⟩ | exact ⟨(((Below.refl _ _).alloc (Nat.le_refl _) _).drew).trans (hb1.mono (by simp)), (hc _ 0 (by simp)).trans (by simp), (hc _ 1 (by simp)).trans (by simp), (hc _ 2 (by simp)).trans (by simp), (hc _ 3 (by simp)).trans (by simp)⟩)
    (first | (go_at_call 11; refine (spread11 r g b a _ h0 h1 h2 h3 h4 h5 h6 h7).mono ?_; rintro e w1 ⟨rfl, hb1⟩; have hc := (bcell hb1).1))
  rename_i hS
  have hB := hS.1
  go_wp2
  go_ret
  exact ⟨by simp, hB⟩
theorem walk6 (r g b a : Int) (w : World) (h0 : 0 ≤ r) (h1 : r ≤ 65535) (h2 : 0 ≤ g) (h3 : g ≤ 65535) (h4 : 0 ≤ b) (h5 : b ≤ 65535) (h6 : 0 ≤ a) (h7 : a ≤ 65535) :
    Calls Try.prog 6 #[.agg #[.int .u16 r, .int .u16 g, .int .u16 b, .int .u16 a]] w fun e w' => e = .returned (.bool true) ∧ Below w.heap.size w w' := by
  have r0 : 0 ≤ r * a := Int.mul_nonneg h0 h6
  have r1 : r * a ≤ 65535 * 65535 := Int.mul_le_mul h1 h7 h6 (by omega)
  have g0 : 0 ≤ g * a := Int.mul_nonneg h2 h6
  have g1 : g * a ≤ 65535 * 65535 := Int.mul_le_mul h3 h7 h6 (by omega)
  have b0 : 0 ≤ b * a := Int.mul_nonneg h4 h6
  have b1 : b * a ≤ 65535 * 65535 := Int.mul_le_mul h5 h7 h6 (by omega)
  go_enter Try.func6, Try.ntmps6
  go_wp2
  go_region_held3 (fun w' => Below w.heap.size w w' ∧ w'.cell? ⟨w.heap.size, 0, none⟩ = some (.int .u16 r) ∧ w'.cell? ⟨w.heap.size, 1, none⟩ = some (.int .u16 g) ∧ w'.cell? ⟨w.heap.size, 2, none⟩ = some (.int .u16 b) ∧ w'.cell? ⟨w.heap.size, 3, none⟩ = some (.int .u16 a) ∧ w'.cell? ⟨w.heap.size + 1, 0, none⟩ = some (.int .u16 (r * a / 65535)) ∧ w'.cell? ⟨w.heap.size + 1, 1, none⟩ = some (.int .u16 (g * a / 65535)) ∧ w'.cell? ⟨w.heap.size + 1, 2, none⟩ = some (.int .u16 (b * a / 65535)) ∧ w'.cell? ⟨w.heap.size + 1, 3, none⟩ = some (.int .u16 a))
    (first | exact ⟨(((Below.refl _ _).alloc (Nat.le_refl _) _).alloc (by simp) _).drew, by simp, by simp, by simp, by simp, by simp, by simp, by simp, by simp⟩ | exact ⟨((((Below.refl _ _).alloc (Nat.le_refl _) _).alloc (by simp) _).drew).trans (hb1.mono (by simp; omega)), (hc _ 0 (by simp; omega)).trans (by simp), (hc _ 1 (by simp; omega)).trans (by simp), (hc _ 2 (by simp; omega)).trans (by simp), (hc _ 3 (by simp; omega)).trans (by simp), (hc _ 0 (by simp)).trans (by simp), (hc _ 1 (by simp)).trans (by simp), (hc _ 2 (by simp)).trans (by simp), (hc _ 3 (by simp)).trans (by simp)⟩)
    (first | (go_at_call 14; refine (spread14 r g b a _ h0 h1 h2 h3 h4 h5 h6 h7).mono ?_; rintro e w1 ⟨rfl, hb1⟩; have hc := (bcell hb1).1))
  rename_i hS
  have hB := hS.1
  go_wp2
  go_ret
  exact ⟨by simp, hB⟩
theorem valid16 (r g b a : Int) (w : World) (hr : r ≤ a) (hg : g ≤ a) (hb : b ≤ a) :
    Calls Try.prog 16 #[.agg #[.int .u16 r, .int .u16 g, .int .u16 b, .int .u16 a]] w fun e w' => e = .returned (.bool true) ∧ Below w.heap.size w w' := by
  have er : decide (r ≤ a) = true := by simpa using hr
  have eg : decide (g ≤ a) = true := by simpa using hg
  have eb : decide (b ≤ a) = true := by simpa using hb
  go_enter Try.func16, Try.ntmps16
  go_wp2
  go_ret
  exact ⟨by simp, (Below.refl _ _).alloc (Nat.le_refl _) _⟩
theorem walk8 (r g b a : Int) (w : World) (h0 : 0 ≤ r) (h1 : r ≤ 65535) (h2 : 0 ≤ g) (h3 : g ≤ 65535) (h4 : 0 ≤ b) (h5 : b ≤ 65535) (h6 : 0 ≤ a) (h7 : a ≤ 65535) :
    Calls Try.prog 8 #[.agg #[.int .u16 r, .int .u16 g, .int .u16 b, .int .u16 a]] w fun e w' => e = .returned (.bool true) ∧ Below w.heap.size w w' := by
  have hr := scaled_le r a h0 h1 h6 h7
  have hg := scaled_le g a h2 h3 h6 h7
  have hb := scaled_le b a h4 h5 h6 h7
  go_enter Try.func8, Try.ntmps8
  go_wp2_with fail
  refine (spread14 r g b a _ h0 h1 h2 h3 h4 h5 h6 h7).mono ?_
  rintro e w1 ⟨rfl, hb1⟩
  obtain ⟨hc, hf⟩ := bcell hb1
  have hz : w.heap.size < w1.heap.size := by have := hb1.size; simp at this; omega
  go_wp2_with fail
  refine (valid16 _ _ _ _ _ hr.2 hg.2 hb.2).mono ?_
  rintro e w2 ⟨rfl, hb2⟩
  obtain ⟨hc2, hf2⟩ := bcell hb2
  have hz2 : w.heap.size < w2.heap.size := by have := hb2.size; simp at this; omega
  have hB : Below w.heap.size w w2 := (((Below.refl _ _).alloc (Nat.le_refl _) _).trans (hb1.mono (by simp))).trans (((Below.refl _ _).alloc (by omega) _).trans (hb2.mono (by simp; omega)))
  go_wp2
  go_ret
  exact ⟨by simp, hB⟩
theorem near15 (x y a : Int) (p : Nat) (w : World) (h0 : 0 ≤ x) (h1 : x ≤ 65535) (h2 : 0 ≤ y) (h3 : y ≤ 65535) (h6 : 0 ≤ a) (h7 : a ≤ 65535) (hp : w.cell? ⟨p, 3, none⟩ = some (.int .u16 a)) (hlo : -65535 < x * 65535 - y * a) (hhi : x * 65535 - y * a < 65535) :
    Calls Try.prog 15 #[.int .u16 x, .int .u16 y, .pointer (some ⟨p, 0, none⟩)] w fun e w' => e = .returned (.bool true) ∧ w = w' := by
  have g0 : 0 ≤ y * a := Int.mul_nonneg h2 h6
  have g1 : y * a ≤ 65535 * 65535 := Int.mul_le_mul h3 h7 h6 (by omega)
  have e1 : decide (-65535 < x * 65535 - y * a) = true := by simpa using hlo
  have e2 : decide (x * 65535 - y * a < 65535) = true := by simpa using hhi
  go_enter Try.func15, Try.ntmps15
  go_wp2
  go_ret
  exact ⟨by simp, rfl⟩
theorem near_ok (y a : Int) (h2 : 0 ≤ y) (h6 : 0 ≤ a) : -65535 < y * a / 65535 * 65535 - y * a ∧ y * a / 65535 * 65535 - y * a < 65535 := by
  have g0 : 0 ≤ y * a := Int.mul_nonneg h2 h6
  omega
theorem walk7 (r g b a : Int) (w : World) (h0 : 0 ≤ r) (h1 : r ≤ 65535) (h2 : 0 ≤ g) (h3 : g ≤ 65535) (h4 : 0 ≤ b) (h5 : b ≤ 65535) (h6 : 0 ≤ a) (h7 : a ≤ 65535) :
    Calls Try.prog 7 #[.agg #[.int .u16 r, .int .u16 g, .int .u16 b, .int .u16 a]] w fun e w' => e = .returned (.bool true) ∧ Below w.heap.size w w' := by
  have hr := scaled_le r a h0 h1 h6 h7
  have hg := scaled_le g a h2 h3 h6 h7
  have hb := scaled_le b a h4 h5 h6 h7
  have nr := near_ok r a h0 h6
  have ng := near_ok g a h2 h6
  have nb := near_ok b a h4 h6
  go_enter Try.func7, Try.ntmps7
  go_wp2_with fail
  refine (spread14 r g b a _ h0 h1 h2 h3 h4 h5 h6 h7).mono ?_
  rintro e w1 ⟨rfl, hb1⟩
  obtain ⟨hc, hf⟩ := bcell hb1
  have hz : w.heap.size < w1.heap.size := by have := hb1.size; simp at this; omega
  have hB : Below w.heap.size w w1 := ((Below.refl _ _).alloc (Nat.le_refl _) _).trans (hb1.mono (by simp))
  have hcell : ∀ o : Obj, (w1.alloc o).cell? ⟨w.heap.size, 3, none⟩ = some (.int .u16 a) := fun o => (World.cell?_alloc_lt w1 o _ hz).trans ((hc _ 3 (by simp)).trans (by simp))
  go_wp2_with fail
  refine (near15 _ r a w.heap.size _ hr.1 (by omega) h0 h1 h6 h7 (hcell _) nr.1 nr.2).mono ?_
  rintro e w2 ⟨rfl, rfl⟩
  go_wp2_with fail
  refine (near15 _ g a w.heap.size _ hg.1 (by omega) h2 h3 h6 h7 (hcell _) ng.1 ng.2).mono ?_
  rintro e w2 ⟨rfl, rfl⟩
  go_wp2_with fail
  refine (near15 _ b a w.heap.size _ hb.1 (by omega) h4 h5 h6 h7 (hcell _) nb.1 nb.2).mono ?_
  rintro e w2 ⟨rfl, rfl⟩
  go_wp2
  go_ret
  exact ⟨by simp, hB.alloc (by omega) _⟩
end Go.Proofs.Ytimdoelgahemdaa
