/- The method SubImage. -/
import Derived.Test.YtmhmahdojcajpaaInter
import Derived.Deep.RegionWith
namespace Go.Proofs.Ytmhmahdojcajpaa
open Go.RowKit
set_option linter.unusedVariables false

/-- What SubImage hands back: an image with this header. -/
def SubBack (v : Value) (s x0 y0 x1 y1 : Int) (w : World) (e : Ending) (w' : World) : Prop :=
  ∃ g : Nat, e = .returned (.iface 71 (.pointer (some ⟨g, 0, none⟩))) ∧ w.heap.size ≤ g ∧ w'.heap[g]? = some (.cells #[v, .int .i64 s, .int .i64 x0, .int .i64 y0, .int .i64 x1, .int .i64 y1] 99 (0, 0)) ∧ Below w.heap.size w w'

theorem subImage_none (g n c : Nat) (A : Option Addr) (s x0 y0 x1 y1 a0 b0 a1 b1 : Int) (w : World) (hg : w.heap[g]? = some (.cells #[.slice A n c, .int .i64 s, .int .i64 x0, .int .i64 y0, .int .i64 x1, .int .i64 y1] 99 (0, 0))) (hE : min x1 a1 ≤ max x0 a0 ∨ min y1 b1 ≤ max y0 b0) :
    Calls Try.prog 55 #[.pointer (some ⟨g, 0, none⟩), .agg #[.int .i64 a0, .int .i64 b0, .int .i64 a1, .int .i64 b1]] w (SubBack (.slice none 0 0) 0 0 0 0 0 w) := by
  have HE := Lib.hid hE
  have HG := Lib.hid hg
  have g0 := cell_of_row w g 0 _ _ _ hg
  have g1 := cell_of_row w g 1 _ _ _ hg
  have g2 := cell_of_row w g 2 _ _ _ hg
  have g3 := cell_of_row w g 3 _ _ _ hg
  have g4 := cell_of_row w g 4 _ _ _ hg
  have g5 := cell_of_row w g 5 _ _ _ hg
  simp at g0 g1 g2 g3 g4 g5
  have hgl : g < w.heap.size := block_lt_of_cell g0
  clear hg HG hE
  go_enter Try.func55, Try.ntmps55
  go_wp2
  go_region_with (go_at_call 63; refine (inter_none x0 y0 x1 y1 a0 b0 a1 b1 _ HE.out).mono ?_; rintro e w1 ⟨rfl, hb1⟩; have hB1 : Below w.heap.size w w1 := ((Below.refl _ _).alloc (Nat.le_refl _) _).drew.trans (hb1.mono (by simp)); have k0 := fun o => (bcell hb1).1 w.heap.size o (by simp); have f0 := fun o => (bcell hb1).2 w.heap.size o (by simp))
  all_goals
    have hz1 : w.heap.size < w1.heap.size := by have := hb1.size; simp at this; omega
    replace g0 := cell_kept g0 hB1
    replace g1 := cell_kept g1 hB1
    replace g2 := cell_kept g2 hB1
    replace g3 := cell_kept g3 hB1
    replace g4 := cell_kept g4 hB1
    replace g5 := cell_kept g5 hB1
    have hgn : ¬ g = w.heap.size := by omega
    have hgm : ¬ w.heap.size = g := by omega
    clear hb1
    go_wp2_with fail
    refine (rempt_any 0 0 0 0 true (by simp [Empt]) _).mono ?_
    rintro e w3 ⟨rfl, hb3⟩
    have hB3 : Below w.heap.size w w3 := ((((hB1.setCell (Nat.le_refl _) _).setCell (Nat.le_refl _) _).setCell (Nat.le_refl _) _).setCell (Nat.le_refl _) _).trans (hb3.mono (by simp [World.setCell]; omega))
    clear hb3
    go_wp2
    go_ret
    exact ⟨w3.heap.size, rfl, hB3.size, heap_alloc_new _ _, hB3.alloc hB3.size _⟩

theorem subImage_some (g b o n c k : Nat) (s x0 y0 x1 y1 a0 b0 a1 b1 c0 d0 c1 d1 : Int) (w : World) (hg : w.heap[g]? = some (.cells #[.slice (some ⟨b, o, none⟩) n c, .int .i64 s, .int .i64 x0, .int .i64 y0, .int .i64 x1, .int .i64 y1] 99 (0, 0))) (hc : (n : Int) ≤ c) (hcm : (c : Int) ≤ 9223372036854775807)
    (m1 : Hid (max x0 a0 = c0)) (m2 : Hid (max y0 b0 = d0)) (m3 : Hid (min x1 a1 = c1)) (m4 : Hid (min y1 b1 = d1)) (n5 : c0 < c1) (n6 : d0 < d1)
    (HK : Hid ((d0 - y0) * s + (c0 - x0) * 2 = k)) (hk : (k : Int) < n)
    (q1 : -4398046511104 ≤ d0 - y0) (q2 : d0 - y0 ≤ 4398046511104) (q3 : -4398046511104 ≤ c0 - x0) (q4 : c0 - x0 ≤ 4398046511104)
    (p1 : -2305843009213693952 ≤ (d0 - y0) * s) (p2 : (d0 - y0) * s ≤ 2305843009213693952) :
    Calls Try.prog 55 #[.pointer (some ⟨g, 0, none⟩), .agg #[.int .i64 a0, .int .i64 b0, .int .i64 a1, .int .i64 b1]] w (SubBack (.slice (some ⟨b, o + k, none⟩) (n - k) (c - k)) s c0 d0 c1 d1 w) := by
  have N5 : Hid (max x0 a0 < min x1 a1) := by unfold Hid; rw [m1.out, m3.out]; exact n5
  have N6 : Hid (max y0 b0 < min y1 b1) := by unfold Hid; rw [m2.out, m4.out]; exact n6
  have HG := Lib.hid hg
  have g0 := cell_of_row w g 0 _ _ _ hg
  have g1 := cell_of_row w g 1 _ _ _ hg
  have g2 := cell_of_row w g 2 _ _ _ hg
  have g3 := cell_of_row w g 3 _ _ _ hg
  have g4 := cell_of_row w g 4 _ _ _ hg
  have g5 := cell_of_row w g 5 _ _ _ hg
  simp at g0 g1 g2 g3 g4 g5
  have hgl : g < w.heap.size := block_lt_of_cell g0
  clear hg
  go_enter Try.func55, Try.ntmps55
  go_wp2
  go_region_with (go_at_call 63; refine (inter_some x0 y0 x1 y1 a0 b0 a1 b1 _ N5.out N6.out).mono ?_; rintro e w1 ⟨rfl, hb1⟩; rw [m1.out, m2.out, m3.out, m4.out]; have hB1 : Below w.heap.size w w1 := ((Below.refl _ _).alloc (Nat.le_refl _) _).drew.trans (hb1.mono (by simp)); have k0 := fun o => (bcell hb1).1 w.heap.size o (by simp); have f0 := fun o => (bcell hb1).2 w.heap.size o (by simp))
  all_goals
    have hz1 : w.heap.size < w1.heap.size := by have := hb1.size; simp at this; omega
    replace g0 := cell_kept g0 hB1
    replace g1 := cell_kept g1 hB1
    replace g2 := cell_kept g2 hB1
    replace g3 := cell_kept g3 hB1
    replace g4 := cell_kept g4 hB1
    replace g5 := cell_kept g5 hB1
    have hgn : ¬ g = w.heap.size := by omega
    have hgm : ¬ w.heap.size = g := by omega
    clear hb1
    go_wp2_with fail
    refine (rempt_any c0 d0 c1 d1 false (by simp [Empt]; omega) _).mono ?_
    rintro e w3 ⟨rfl, hb3⟩
    have hB3 : Below w.heap.size w w3 := ((((hB1.setCell (Nat.le_refl _) _).setCell (Nat.le_refl _) _).setCell (Nat.le_refl _) _).setCell (Nat.le_refl _) _).trans (hb3.mono (by simp [World.setCell]; omega))
    have t0 : w3.cell? ⟨w.heap.size, 0, none⟩ = some (.int .i64 c0) := ((bcell hb3).1 w.heap.size 0 (by simp [World.setCell]; omega)).trans (by go_simp)
    have t1 : w3.cell? ⟨w.heap.size, 1, none⟩ = some (.int .i64 d0) := ((bcell hb3).1 w.heap.size 1 (by simp [World.setCell]; omega)).trans (by go_simp)
    have t2 : w3.cell? ⟨w.heap.size, 2, none⟩ = some (.int .i64 c1) := ((bcell hb3).1 w.heap.size 2 (by simp [World.setCell]; omega)).trans (by go_simp)
    have t3 : w3.cell? ⟨w.heap.size, 3, none⟩ = some (.int .i64 d1) := ((bcell hb3).1 w.heap.size 3 (by simp [World.setCell]; omega)).trans (by go_simp)
    have u0 : w3.cell? ⟨g, 0, none⟩ = some (.slice (some ⟨b, o, none⟩) n c) := ((bcell hb3).1 g 0 (by simp [World.setCell]; omega)).trans (by go_simp)
    have u1 : w3.cell? ⟨g, 1, none⟩ = some (.int .i64 s) := ((bcell hb3).1 g 1 (by simp [World.setCell]; omega)).trans (by go_simp)
    have HG3 := Lib.hid (heap_kept HG.out hB3)
    clear hb3 k0 f0 g0 g1 g2 g3 g4 g5 hz1 hB1
    go_wp2_with fail
    refine (pixOffset_any g _ c (List.replicate n 0) s x0 y0 x1 y1 c0 d0 _ (by simpa using HG3.out) q1 q2 q3 q4 p1 p2).mono ?_
    rintro e w4 ⟨rfl, m, rfl⟩
    rw [HK.out]
    clear q1 q2 q3 q4 p1 p2 HK HG3 HG
    have i0 : (0 : Int) ≤ (k : Int) := by omega
    have i1 : (k : Int) ≤ (n : Int) := by omega
    have i2 : ¬ c = k := by omega
    go_wp2
    go_region
    go_wp2
    go_ret
    exact ⟨w3.heap.size, by simp, hB3.size, heap_alloc_new _ _, (below_drewN hB3 _).alloc hB3.size _⟩

end Go.Proofs.Ytmhmahdojcajpaa
