/- Films: the method SubImage. -/
import Derived.Test.YtcomldkihibfjaaFilmOf
import Derived.Test.YtcomldkihibfjaaInter
import Derived.Test.YtcomldkihibfjaaPlainSub
import Derived.Deep.RegionWith
namespace Go.Proofs.Ytcomldkihibfjaa
open Go.RowKit
set_option linter.unusedVariables false
set_option linter.unusedSimpArgs false

/-- What SubImage hands back: a film with this header. -/
def SubBack (cs : Array Value) (w : World) (e : Ending) (w' : World) : Prop :=
  ∃ g : Nat, e = .returned (.iface 53 (.pointer (some ⟨g, 0, none⟩))) ∧ w.heap.size ≤ g ∧ w'.heap[g]? = some (.cells cs 83 (0, 0)) ∧ Below w.heap.size w w'

set_option maxRecDepth 100000 in
set_option maxHeartbeats 2000000 in
theorem subImage_none (g : Nat) (x0 y0 x1 y1 rt ys cs at4 : Int) (A1 A2 A3 A4 : Option Addr) (c1 c2 c3 c4 : Nat) (z1 z2 z3 z4 : List Int) (a0 b0 a1 b1 : Int) (w : World) (hg : w.heap[g]? = some (.cells #[.slice A1 z1.length c1, .slice A2 z2.length c2, .slice A3 z3.length c3, .int .i64 ys, .int .i64 cs, .int .i64 rt, .int .i64 x0, .int .i64 y0, .int .i64 x1, .int .i64 y1, .slice A4 z4.length c4, .int .i64 at4] 83 (0, 0))) (hE : Hid (min x1 a1 ≤ max x0 a0 ∨ min y1 b1 ≤ max y0 b0)) :
    Calls Try.prog 38 #[.pointer (some ⟨g, 0, none⟩), .agg #[.int .i64 a0, .int .i64 b0, .int .i64 a1, .int .i64 b1]] w (SubBack #[.slice none 0 0, .slice none 0 0, .slice none 0 0, .int .i64 0, .int .i64 0, .int .i64 rt, .int .i64 0, .int .i64 0, .int .i64 0, .int .i64 0, .slice none 0 0, .int .i64 0] w) := by
  have HG := Lib.hid hg
  have hgl : g < w.heap.size := heap_lt hg
  have g0 := row_cell (i := 0) (v := .slice A1 z1.length c1) hg rfl
  have g1 := row_cell (i := 1) (v := .slice A2 z2.length c2) hg rfl
  have g2 := row_cell (i := 2) (v := .slice A3 z3.length c3) hg rfl
  have g3 := row_cell (i := 3) (v := .int .i64 ys) hg rfl
  have g4 := row_cell (i := 4) (v := .int .i64 cs) hg rfl
  have g5 := row_cell (i := 5) (v := .int .i64 rt) hg rfl
  have g6 := row_cell (i := 6) (v := .int .i64 x0) hg rfl
  have g7 := row_cell (i := 7) (v := .int .i64 y0) hg rfl
  have g8 := row_cell (i := 8) (v := .int .i64 x1) hg rfl
  have g9 := row_cell (i := 9) (v := .int .i64 y1) hg rfl
  have g10 := row_cell (i := 10) (v := .slice A4 z4.length c4) hg rfl
  have g11 := row_cell (i := 11) (v := .int .i64 at4) hg rfl
  clear hg
  clear HG
  go_enter Try.func38, Try.ntmps38
  go_wp2
  go_upto_region 1 with fail
  go_cut [14] (fun _q wx => Below w.heap.size w wx ∧ w.heap.size < wx.heap.size ∧ wx.cell? ⟨w.heap.size, 0, none⟩ = some (.int .i64 0) ∧ wx.cell? ⟨w.heap.size, 1, none⟩ = some (.int .i64 0) ∧ wx.cell? ⟨w.heap.size, 2, none⟩ = some (.int .i64 0) ∧ wx.cell? ⟨w.heap.size, 3, none⟩ = some (.int .i64 0))
  case first =>
    go_region_with (go_at_call 49; refine (inter_none x0 y0 x1 y1 a0 b0 a1 b1 _ hE.out).mono ?_; rintro e w1 ⟨rfl, hb1⟩; have hB1 : Below w.heap.size w w1 := ((Below.refl _ _).alloc (Nat.le_refl _) _).drew.trans (hb1.mono (by simp)); have k0 := fun o => (bcell hb1).1 w.heap.size o (by simp); have f0 := fun o => (bcell hb1).2 w.heap.size o (by simp))
    all_goals
      have hz1 : w.heap.size < w1.heap.size := by have := hb1.size; simp at this; omega
      clear hb1
      go_wp2_with fail
      go_meet
      exact ⟨(((hB1.setCell (Nat.le_refl _) _).setCell (Nat.le_refl _) _).setCell (Nat.le_refl _) _).setCell (Nat.le_refl _) _, by simp [World.setCell]; omega, by go_simp, by go_simp, by go_simp, by go_simp⟩
  case rest =>
    obtain ⟨hB1, hz1, k0, k1', k2', k3⟩ := hcut
    replace g0 := cell_kept g0 hB1
    replace g1 := cell_kept g1 hB1
    replace g2 := cell_kept g2 hB1
    replace g3 := cell_kept g3 hB1
    replace g4 := cell_kept g4 hB1
    replace g5 := cell_kept g5 hB1
    replace g6 := cell_kept g6 hB1
    replace g7 := cell_kept g7 hB1
    replace g8 := cell_kept g8 hB1
    replace g9 := cell_kept g9 hB1
    replace g10 := cell_kept g10 hB1
    replace g11 := cell_kept g11 hB1
    go_wp2_with fail
    refine (rempt_any 0 0 0 0 true (by simp [Empt]) _).mono ?_
    rintro e w3 ⟨rfl, hb3⟩
    have hB3 : Below w.heap.size w w3 := hB1.trans (hb3.mono hB1.size)
    have u5 := cell_kept g5 hb3
    clear hb3 k0 k1' k2' k3 g0 g1 g2 g3 g4 g5 g6 g7 g8 g9 g10 g11 hz1 hB1
    go_wp2
    go_ret
    exact ⟨w3.heap.size, by simp, hB3.size, heap_alloc_new _ _, hB3.alloc hB3.size _⟩

set_option maxRecDepth 100000 in
set_option maxHeartbeats 2000000 in
theorem subImage_some (g : Nat) (x0 y0 x1 y1 rt ys cs at4 : Int) (b1 b2 b3 b4 o1 o2 o3 o4 c1 c2 c3 c4 k1 k2 k4 : Nat) (z1 z2 z3 z4 : List Int) (a0 b0 a1 b1' c0 d0 c1' d1 : Int) (w : World) (hg : w.heap[g]? = some (.cells #[.slice (some ⟨b1, o1, none⟩) z1.length c1, .slice (some ⟨b2, o2, none⟩) z2.length c2, .slice (some ⟨b3, o3, none⟩) z3.length c3, .int .i64 ys, .int .i64 cs, .int .i64 rt, .int .i64 x0, .int .i64 y0, .int .i64 x1, .int .i64 y1, .slice (some ⟨b4, o4, none⟩) z4.length c4, .int .i64 at4] 83 (0, 0)))
    (m1 : Hid (max x0 a0 = c0)) (m2 : Hid (max y0 b0 = d0)) (m3 : Hid (min x1 a1 = c1')) (m4 : Hid (min y1 b1' = d1)) (n5 : c0 < c1') (n6 : d0 < d1) (hO : Hid (Okay x0 y0 x1 y1 rt ys cs at4 c0 d0))
    (K1 : Hid ((d0 - y0) * ys + (c0 - x0) = k1)) (K2 : Hid (chr x0 y0 rt cs c0 d0 = k2)) (K4 : Hid ((d0 - y0) * at4 + (c0 - x0) = k4)) (hk1 : (k1 : Int) < z1.length) (hc1 : (z1.length : Int) ≤ c1) (hm1 : (c1 : Int) ≤ 9223372036854775807) (hk2 : (k2 : Int) < z2.length) (hc2 : (z2.length : Int) ≤ c2) (hm2 : (c2 : Int) ≤ 9223372036854775807) (hk3 : (k2 : Int) < z3.length) (hc3 : (z3.length : Int) ≤ c3) (hm3 : (c3 : Int) ≤ 9223372036854775807) (hk4 : (k4 : Int) < z4.length) (hc4 : (z4.length : Int) ≤ c4) (hm4 : (c4 : Int) ≤ 9223372036854775807) :
    Calls Try.prog 38 #[.pointer (some ⟨g, 0, none⟩), .agg #[.int .i64 a0, .int .i64 b0, .int .i64 a1, .int .i64 b1']] w (SubBack #[.slice (some ⟨b1, o1 + k1, none⟩) (z1.length - k1) (c1 - k1), .slice (some ⟨b2, o2 + k2, none⟩) (z2.length - k2) (c2 - k2), .slice (some ⟨b3, o3 + k2, none⟩) (z3.length - k2) (c3 - k2), .int .i64 ys, .int .i64 cs, .int .i64 rt, .int .i64 c0, .int .i64 d0, .int .i64 c1', .int .i64 d1, .slice (some ⟨b4, o4 + k4, none⟩) (z4.length - k4) (c4 - k4), .int .i64 at4] w) := by
  have N5 : Hid (max x0 a0 < min x1 a1) := by unfold Hid; rw [m1.out, m3.out]; exact n5
  have N6 : Hid (max y0 b0 < min y1 b1') := by unfold Hid; rw [m2.out, m4.out]; exact n6
  obtain ⟨_, _, _, _, _, _, q1, q2, q3, q4⟩ := hO.out.nums
  obtain ⟨⟨p1, p2⟩, p3, p4⟩ := hO.out.prods
  have HG := Lib.hid hg
  have hgl : g < w.heap.size := heap_lt hg
  have g0 := row_cell (i := 0) (v := .slice (some ⟨b1, o1, none⟩) z1.length c1) hg rfl
  have g1 := row_cell (i := 1) (v := .slice (some ⟨b2, o2, none⟩) z2.length c2) hg rfl
  have g2 := row_cell (i := 2) (v := .slice (some ⟨b3, o3, none⟩) z3.length c3) hg rfl
  have g3 := row_cell (i := 3) (v := .int .i64 ys) hg rfl
  have g4 := row_cell (i := 4) (v := .int .i64 cs) hg rfl
  have g5 := row_cell (i := 5) (v := .int .i64 rt) hg rfl
  have g6 := row_cell (i := 6) (v := .int .i64 x0) hg rfl
  have g7 := row_cell (i := 7) (v := .int .i64 y0) hg rfl
  have g8 := row_cell (i := 8) (v := .int .i64 x1) hg rfl
  have g9 := row_cell (i := 9) (v := .int .i64 y1) hg rfl
  have g10 := row_cell (i := 10) (v := .slice (some ⟨b4, o4, none⟩) z4.length c4) hg rfl
  have g11 := row_cell (i := 11) (v := .int .i64 at4) hg rfl
  clear hg
  go_enter Try.func38, Try.ntmps38
  go_wp2
  go_upto_region 1 with fail
  go_cut [14] (fun _q wx => Below w.heap.size w wx ∧ w.heap.size < wx.heap.size ∧ wx.cell? ⟨w.heap.size, 0, none⟩ = some (.int .i64 c0) ∧ wx.cell? ⟨w.heap.size, 1, none⟩ = some (.int .i64 d0) ∧ wx.cell? ⟨w.heap.size, 2, none⟩ = some (.int .i64 c1') ∧ wx.cell? ⟨w.heap.size, 3, none⟩ = some (.int .i64 d1))
  case first =>
    go_region_with (go_at_call 49; refine (inter_some x0 y0 x1 y1 a0 b0 a1 b1' _ N5.out N6.out).mono ?_; rintro e w1 ⟨rfl, hb1⟩; rw [m1.out, m2.out, m3.out, m4.out]; have hB1 : Below w.heap.size w w1 := ((Below.refl _ _).alloc (Nat.le_refl _) _).drew.trans (hb1.mono (by simp)); have k0 := fun o => (bcell hb1).1 w.heap.size o (by simp); have f0 := fun o => (bcell hb1).2 w.heap.size o (by simp))
    all_goals
      have hz1 : w.heap.size < w1.heap.size := by have := hb1.size; simp at this; omega
      clear hb1
      go_wp2_with fail
      go_meet
      exact ⟨(((hB1.setCell (Nat.le_refl _) _).setCell (Nat.le_refl _) _).setCell (Nat.le_refl _) _).setCell (Nat.le_refl _) _, by simp [World.setCell]; omega, by go_simp, by go_simp, by go_simp, by go_simp⟩
  case rest =>
    obtain ⟨hB1, hz1, k0, k1', k2', k3⟩ := hcut
    replace g0 := cell_kept g0 hB1
    replace g1 := cell_kept g1 hB1
    replace g2 := cell_kept g2 hB1
    replace g3 := cell_kept g3 hB1
    replace g4 := cell_kept g4 hB1
    replace g5 := cell_kept g5 hB1
    replace g6 := cell_kept g6 hB1
    replace g7 := cell_kept g7 hB1
    replace g8 := cell_kept g8 hB1
    replace g9 := cell_kept g9 hB1
    replace g10 := cell_kept g10 hB1
    replace g11 := cell_kept g11 hB1
    go_wp2_with fail
    refine (rempt_any c0 d0 c1' d1 false (by simp [Empt]; omega) _).mono ?_
    rintro e w3 ⟨rfl, hb3⟩
    have hB3 : Below w.heap.size w w3 := hB1.trans (hb3.mono hB1.size)
    have t0 := cell_kept k0 hb3
    have t1 := cell_kept k1' hb3
    have t2 := cell_kept k2' hb3
    have t3 := cell_kept k3 hb3
    have u0 := cell_kept g0 hb3
    have u1 := cell_kept g1 hb3
    have u2 := cell_kept g2 hb3
    have u3 := cell_kept g3 hb3
    have u4 := cell_kept g4 hb3
    have u5 := cell_kept g5 hb3
    have u6 := cell_kept g6 hb3
    have u7 := cell_kept g7 hb3
    have u8 := cell_kept g8 hb3
    have u9 := cell_kept g9 hb3
    have u10 := cell_kept g10 hb3
    have u11 := cell_kept g11 hb3
    have HG3 := Lib.hid (heap_kept HG.out hB3)
    have hz3 : w.heap.size ≤ w3.heap.size := hB3.size
    clear hb3 k0 k1' k2' k3 g0 g1 g2 g3 g4 g5 g6 g7 g8 g9 g10 g11 hz1 hB1 HG
    have P0 : Below w3.heap.size w3 w3.drew := (Below.refl _ _).drew
    have toS : ∀ W' : World, Below w3.heap.size w3 W' → (W'.cell? ⟨g, 0, none⟩ = some (.slice (some ⟨b1, o1, none⟩) z1.length c1) ∧ W'.cell? ⟨g, 1, none⟩ = some (.slice (some ⟨b2, o2, none⟩) z2.length c2) ∧ W'.cell? ⟨g, 2, none⟩ = some (.slice (some ⟨b3, o3, none⟩) z3.length c3) ∧ W'.cell? ⟨g, 3, none⟩ = some (.int .i64 ys) ∧ W'.cell? ⟨g, 4, none⟩ = some (.int .i64 cs) ∧ W'.cell? ⟨g, 5, none⟩ = some (.int .i64 rt) ∧ W'.cell? ⟨g, 6, none⟩ = some (.int .i64 x0) ∧ W'.cell? ⟨g, 7, none⟩ = some (.int .i64 y0) ∧ W'.cell? ⟨g, 8, none⟩ = some (.int .i64 x1) ∧ W'.cell? ⟨g, 9, none⟩ = some (.int .i64 y1) ∧ W'.cell? ⟨g, 10, none⟩ = some (.slice (some ⟨b4, o4, none⟩) z4.length c4) ∧ W'.cell? ⟨g, 11, none⟩ = some (.int .i64 at4) ∧ W'.cell? ⟨w.heap.size, 0, none⟩ = some (.int .i64 c0) ∧ W'.cell? ⟨w.heap.size, 1, none⟩ = some (.int .i64 d0) ∧ W'.cell? ⟨w.heap.size, 2, none⟩ = some (.int .i64 c1') ∧ W'.cell? ⟨w.heap.size, 3, none⟩ = some (.int .i64 d1)) := fun W' h => ⟨cell_kept u0 h, cell_kept u1 h, cell_kept u2 h, cell_kept u3 h, cell_kept u4 h, cell_kept u5 h, cell_kept u6 h, cell_kept u7 h, cell_kept u8 h, cell_kept u9 h, cell_kept u10 h, cell_kept u11 h, cell_kept t0 h, cell_kept t1 h, cell_kept t2 h, cell_kept t3 h⟩
    have TOS := Lib.hid toS
    clear toS
    go_wp2_with fail
    refine wp_region_held_drew (S := fun w' => w'.cell? ⟨g, 0, none⟩ = some (.slice (some ⟨b1, o1, none⟩) z1.length c1) ∧ w'.cell? ⟨g, 1, none⟩ = some (.slice (some ⟨b2, o2, none⟩) z2.length c2) ∧ w'.cell? ⟨g, 2, none⟩ = some (.slice (some ⟨b3, o3, none⟩) z3.length c3) ∧ w'.cell? ⟨g, 3, none⟩ = some (.int .i64 ys) ∧ w'.cell? ⟨g, 4, none⟩ = some (.int .i64 cs) ∧ w'.cell? ⟨g, 5, none⟩ = some (.int .i64 rt) ∧ w'.cell? ⟨g, 6, none⟩ = some (.int .i64 x0) ∧ w'.cell? ⟨g, 7, none⟩ = some (.int .i64 y0) ∧ w'.cell? ⟨g, 8, none⟩ = some (.int .i64 x1) ∧ w'.cell? ⟨g, 9, none⟩ = some (.int .i64 y1) ∧ w'.cell? ⟨g, 10, none⟩ = some (.slice (some ⟨b4, o4, none⟩) z4.length c4) ∧ w'.cell? ⟨g, 11, none⟩ = some (.int .i64 at4) ∧ w'.cell? ⟨w.heap.size, 0, none⟩ = some (.int .i64 c0) ∧ w'.cell? ⟨w.heap.size, 1, none⟩ = some (.int .i64 d0) ∧ w'.cell? ⟨w.heap.size, 2, none⟩ = some (.int .i64 c1') ∧ w'.cell? ⟨w.heap.size, 3, none⟩ = some (.int .i64 d1)) (by kernel_rfl) ?_ (fun hHeld => ?_)
    · (refine TOS.out _ ?_; (repeat (first | with_reducible exact Below.refl _ _ | with_reducible refine Below.drew ?_ | with_reducible refine below_drewN ?_ _)))
    refine wpAnyH_take (i := 0) (oi := _) (v := ?v0) rfl (by kernel_rfl) (by kernel_rfl) (by kernel_rfl) (fun _ _ _ h => h) (Or.inl ⟨by rfl, ?hy0⟩) (by assumption) ?rest0
    case hy0 => (intro w hSw; (try dsimp only at hSw); go_simp <;> with_reducible rfl)
    try simp only [Act.put, List.getElem_toArray, List.getElem_cons_succ, List.getElem_cons_zero, List.setIfInBounds_toArray, List.set_cons_zero, List.set_cons_succ]
    refine wpAnyH_take (i := 1) (oi := _) (v := ?v1) rfl (by kernel_rfl) (by kernel_rfl) (by kernel_rfl) (fun _ _ _ h => h) (Or.inl ⟨by rfl, ?hy1⟩) (by assumption) ?rest1
    case hy1 => (intro w hSw; (try dsimp only at hSw); go_simp <;> with_reducible rfl)
    try simp only [Act.put, List.getElem_toArray, List.getElem_cons_succ, List.getElem_cons_zero, List.setIfInBounds_toArray, List.set_cons_zero, List.set_cons_succ]
    refine wpAnyH_take (i := 2) (oi := _) (v := ?v2) rfl (by kernel_rfl) (by kernel_rfl) (by kernel_rfl) (fun _ _ _ h => h) (Or.inl ⟨by rfl, ?hy2⟩) (by assumption) ?rest2
    case hy2 => (intro w hSw; (try dsimp only at hSw); go_simp <;> with_reducible rfl)
    try simp only [Act.put, List.getElem_toArray, List.getElem_cons_succ, List.getElem_cons_zero, List.setIfInBounds_toArray, List.set_cons_zero, List.set_cons_succ]
    refine wpAnyH_take (i := 3) (oi := _) (v := ?v3) rfl (by kernel_rfl) (by kernel_rfl) (by kernel_rfl) (fun _ _ _ h => h) (Or.inl ⟨by rfl, ?hy3⟩) (by assumption) ?rest3
    case hy3 => (intro w hSw; (try dsimp only at hSw); go_simp <;> with_reducible rfl)
    try simp only [Act.put, List.getElem_toArray, List.getElem_cons_succ, List.getElem_cons_zero, List.setIfInBounds_toArray, List.set_cons_zero, List.set_cons_succ]
    refine wpAnyH_take (i := 4) (oi := _) (v := ?v4) rfl (by kernel_rfl) (by kernel_rfl) (by kernel_rfl) (fun _ _ _ h => h) (Or.inl ⟨by rfl, ?hy4⟩) (by assumption) ?rest4
    case hy4 => (intro w hSw; (try dsimp only at hSw); go_simp <;> with_reducible rfl)
    try simp only [Act.put, List.getElem_toArray, List.getElem_cons_succ, List.getElem_cons_zero, List.setIfInBounds_toArray, List.set_cons_zero, List.set_cons_succ]
    refine wpAnyH_take (i := 5) (oi := _) (v := ?v5) rfl (by kernel_rfl) (by kernel_rfl) (by kernel_rfl) (fun _ _ _ h => h) (Or.inl ⟨by rfl, ?hy5⟩) (by assumption) ?rest5
    case hy5 => (intro w hSw; (try dsimp only at hSw); go_simp <;> with_reducible rfl)
    try simp only [Act.put, List.getElem_toArray, List.getElem_cons_succ, List.getElem_cons_zero, List.setIfInBounds_toArray, List.set_cons_zero, List.set_cons_succ]
    refine wpAnyH_take (i := 6) (oi := _) (v := ?v6) rfl (by kernel_rfl) (by kernel_rfl) (by kernel_rfl) (fun _ _ _ h => h) (Or.inl ⟨by rfl, ?hy6⟩) (by assumption) ?rest6
    case hy6 => (intro w hSw; (try dsimp only at hSw); go_simp <;> with_reducible rfl)
    try simp only [Act.put, List.getElem_toArray, List.getElem_cons_succ, List.getElem_cons_zero, List.setIfInBounds_toArray, List.set_cons_zero, List.set_cons_succ]
    refine wpAnyH_take (i := 7) (oi := _) (v := ?v7) rfl (by kernel_rfl) (by kernel_rfl) (by kernel_rfl) (fun _ _ _ h => h) (Or.inl ⟨by rfl, ?hy7⟩) (by assumption) ?rest7
    case hy7 => (intro w hSw; (try dsimp only at hSw); go_simp <;> with_reducible rfl)
    try simp only [Act.put, List.getElem_toArray, List.getElem_cons_succ, List.getElem_cons_zero, List.setIfInBounds_toArray, List.set_cons_zero, List.set_cons_succ]
    refine wpAnyH_take (i := 8) (oi := _) (v := ?v8) rfl (by kernel_rfl) (by kernel_rfl) (by kernel_rfl) (fun _ _ _ h => h) (Or.inl ⟨by rfl, ?hy8⟩) (by assumption) ?rest8
    case hy8 => (intro w hSw; (try dsimp only at hSw); go_simp <;> with_reducible rfl)
    try simp only [Act.put, List.getElem_toArray, List.getElem_cons_succ, List.getElem_cons_zero, List.setIfInBounds_toArray, List.set_cons_zero, List.set_cons_succ]
    refine wpAnyH_ready (rs := [9]) (by kernel_rfl) (by simp) ?_
    refine AllReadyH.cons (o := _) rfl (fun K hK => ?_) AllReadyH.nil
    go_simp
    (go_at_call 51; refine (yOffset_any g x0 y0 x1 y1 rt ys cs at4 _ _ _ _ c1 c2 c3 c4 z1 z2 z3 z4 c0 d0 _ (by exact HG3.out) q1 q2 q3 q4 p1 p2).mono ?_; rintro e v1 ⟨rfl, n1, rfl⟩; rw [K1.out])
    refine hK.out _ _ ?_ (fun hHeld => ?_)
    · (refine TOS.out _ ?_; (repeat (first | with_reducible exact Below.refl _ _ | with_reducible refine Below.drew ?_ | with_reducible refine below_drewN ?_ _)))
    clear hK K
    try simp only [Act.put, List.getElem_toArray, List.getElem_cons_succ, List.getElem_cons_zero, List.setIfInBounds_toArray, List.set_cons_zero, List.set_cons_succ]
    refine wpAnyH_take (i := 10) (oi := _) (v := ?v10) rfl (by kernel_rfl) (by kernel_rfl) (by kernel_rfl) (fun _ _ _ h => h) (Or.inl ⟨by rfl, ?hy10⟩) (by assumption) ?rest10
    case hy10 => (intro w hSw; (try dsimp only at hSw); go_simp <;> with_reducible rfl)
    try simp only [Act.put, List.getElem_toArray, List.getElem_cons_succ, List.getElem_cons_zero, List.setIfInBounds_toArray, List.set_cons_zero, List.set_cons_succ]
    refine wpAnyH_done (by kernel_rfl) ?_ _
    go_wp2_with fail
    refine wp_region_held_drew (S := fun w' => w'.cell? ⟨g, 0, none⟩ = some (.slice (some ⟨b1, o1, none⟩) z1.length c1) ∧ w'.cell? ⟨g, 1, none⟩ = some (.slice (some ⟨b2, o2, none⟩) z2.length c2) ∧ w'.cell? ⟨g, 2, none⟩ = some (.slice (some ⟨b3, o3, none⟩) z3.length c3) ∧ w'.cell? ⟨g, 3, none⟩ = some (.int .i64 ys) ∧ w'.cell? ⟨g, 4, none⟩ = some (.int .i64 cs) ∧ w'.cell? ⟨g, 5, none⟩ = some (.int .i64 rt) ∧ w'.cell? ⟨g, 6, none⟩ = some (.int .i64 x0) ∧ w'.cell? ⟨g, 7, none⟩ = some (.int .i64 y0) ∧ w'.cell? ⟨g, 8, none⟩ = some (.int .i64 x1) ∧ w'.cell? ⟨g, 9, none⟩ = some (.int .i64 y1) ∧ w'.cell? ⟨g, 10, none⟩ = some (.slice (some ⟨b4, o4, none⟩) z4.length c4) ∧ w'.cell? ⟨g, 11, none⟩ = some (.int .i64 at4) ∧ w'.cell? ⟨w.heap.size, 0, none⟩ = some (.int .i64 c0) ∧ w'.cell? ⟨w.heap.size, 1, none⟩ = some (.int .i64 d0) ∧ w'.cell? ⟨w.heap.size, 2, none⟩ = some (.int .i64 c1') ∧ w'.cell? ⟨w.heap.size, 3, none⟩ = some (.int .i64 d1)) (by kernel_rfl) ?_ (fun hHeld => ?_)
    · (refine TOS.out _ ?_; (repeat (first | with_reducible exact Below.refl _ _ | with_reducible refine Below.drew ?_ | with_reducible refine below_drewN ?_ _)))
    refine wpAnyH_take (i := 0) (oi := _) (v := ?vr2_0) rfl (by kernel_rfl) (by kernel_rfl) (by kernel_rfl) (fun _ _ _ h => h) (Or.inl ⟨by rfl, ?hyr2_0⟩) (by assumption) ?restr2_0
    case hyr2_0 => (intro w hSw; (try dsimp only at hSw); go_simp <;> with_reducible rfl)
    try simp only [Act.put, List.getElem_toArray, List.getElem_cons_succ, List.getElem_cons_zero, List.setIfInBounds_toArray, List.set_cons_zero, List.set_cons_succ]
    refine wpAnyH_take (i := 1) (oi := _) (v := ?vr2_1) rfl (by kernel_rfl) (by kernel_rfl) (by kernel_rfl) (fun _ _ _ h => h) (Or.inl ⟨by rfl, ?hyr2_1⟩) (by assumption) ?restr2_1
    case hyr2_1 => (intro w hSw; (try dsimp only at hSw); go_simp <;> with_reducible rfl)
    try simp only [Act.put, List.getElem_toArray, List.getElem_cons_succ, List.getElem_cons_zero, List.setIfInBounds_toArray, List.set_cons_zero, List.set_cons_succ]
    refine wpAnyH_take (i := 2) (oi := _) (v := ?vr2_2) rfl (by kernel_rfl) (by kernel_rfl) (by kernel_rfl) (fun _ _ _ h => h) (Or.inl ⟨by rfl, ?hyr2_2⟩) (by assumption) ?restr2_2
    case hyr2_2 => (intro w hSw; (try dsimp only at hSw); go_simp <;> with_reducible rfl)
    try simp only [Act.put, List.getElem_toArray, List.getElem_cons_succ, List.getElem_cons_zero, List.setIfInBounds_toArray, List.set_cons_zero, List.set_cons_succ]
    refine wpAnyH_take (i := 3) (oi := _) (v := ?vr2_3) rfl (by kernel_rfl) (by kernel_rfl) (by kernel_rfl) (fun _ _ _ h => h) (Or.inl ⟨by rfl, ?hyr2_3⟩) (by assumption) ?restr2_3
    case hyr2_3 => (intro w hSw; (try dsimp only at hSw); go_simp <;> with_reducible rfl)
    try simp only [Act.put, List.getElem_toArray, List.getElem_cons_succ, List.getElem_cons_zero, List.setIfInBounds_toArray, List.set_cons_zero, List.set_cons_succ]
    refine wpAnyH_take (i := 4) (oi := _) (v := ?vr2_4) rfl (by kernel_rfl) (by kernel_rfl) (by kernel_rfl) (fun _ _ _ h => h) (Or.inl ⟨by rfl, ?hyr2_4⟩) (by assumption) ?restr2_4
    case hyr2_4 => (intro w hSw; (try dsimp only at hSw); go_simp <;> with_reducible rfl)
    try simp only [Act.put, List.getElem_toArray, List.getElem_cons_succ, List.getElem_cons_zero, List.setIfInBounds_toArray, List.set_cons_zero, List.set_cons_succ]
    refine wpAnyH_take (i := 5) (oi := _) (v := ?vr2_5) rfl (by kernel_rfl) (by kernel_rfl) (by kernel_rfl) (fun _ _ _ h => h) (Or.inl ⟨by rfl, ?hyr2_5⟩) (by assumption) ?restr2_5
    case hyr2_5 => (intro w hSw; (try dsimp only at hSw); go_simp <;> with_reducible rfl)
    try simp only [Act.put, List.getElem_toArray, List.getElem_cons_succ, List.getElem_cons_zero, List.setIfInBounds_toArray, List.set_cons_zero, List.set_cons_succ]
    refine wpAnyH_take (i := 6) (oi := _) (v := ?vr2_6) rfl (by kernel_rfl) (by kernel_rfl) (by kernel_rfl) (fun _ _ _ h => h) (Or.inl ⟨by rfl, ?hyr2_6⟩) (by assumption) ?restr2_6
    case hyr2_6 => (intro w hSw; (try dsimp only at hSw); go_simp <;> with_reducible rfl)
    try simp only [Act.put, List.getElem_toArray, List.getElem_cons_succ, List.getElem_cons_zero, List.setIfInBounds_toArray, List.set_cons_zero, List.set_cons_succ]
    refine wpAnyH_take (i := 7) (oi := _) (v := ?vr2_7) rfl (by kernel_rfl) (by kernel_rfl) (by kernel_rfl) (fun _ _ _ h => h) (Or.inl ⟨by rfl, ?hyr2_7⟩) (by assumption) ?restr2_7
    case hyr2_7 => (intro w hSw; (try dsimp only at hSw); go_simp <;> with_reducible rfl)
    try simp only [Act.put, List.getElem_toArray, List.getElem_cons_succ, List.getElem_cons_zero, List.setIfInBounds_toArray, List.set_cons_zero, List.set_cons_succ]
    refine wpAnyH_take (i := 8) (oi := _) (v := ?vr2_8) rfl (by kernel_rfl) (by kernel_rfl) (by kernel_rfl) (fun _ _ _ h => h) (Or.inl ⟨by rfl, ?hyr2_8⟩) (by assumption) ?restr2_8
    case hyr2_8 => (intro w hSw; (try dsimp only at hSw); go_simp <;> with_reducible rfl)
    try simp only [Act.put, List.getElem_toArray, List.getElem_cons_succ, List.getElem_cons_zero, List.setIfInBounds_toArray, List.set_cons_zero, List.set_cons_succ]
    refine wpAnyH_ready (rs := [9]) (by kernel_rfl) (by simp) ?_
    refine AllReadyH.cons (o := _) rfl (fun K hK => ?_) AllReadyH.nil
    go_simp
    (go_at_call 52; refine (cOffset_any g x0 y0 x1 y1 rt ys cs at4 _ _ _ _ c1 c2 c3 c4 z1 z2 z3 z4 c0 d0 _ (by exact HG3.out) hO).mono ?_; rintro e v2 ⟨rfl, n2, rfl⟩; rw [K2.out])
    refine hK.out _ _ ?_ (fun hHeld => ?_)
    · (refine TOS.out _ ?_; (repeat (first | with_reducible exact Below.refl _ _ | with_reducible refine Below.drew ?_ | with_reducible refine below_drewN ?_ _)))
    clear hK K
    try simp only [Act.put, List.getElem_toArray, List.getElem_cons_succ, List.getElem_cons_zero, List.setIfInBounds_toArray, List.set_cons_zero, List.set_cons_succ]
    refine wpAnyH_take (i := 10) (oi := _) (v := ?vr2_10) rfl (by kernel_rfl) (by kernel_rfl) (by kernel_rfl) (fun _ _ _ h => h) (Or.inl ⟨by rfl, ?hyr2_10⟩) (by assumption) ?restr2_10
    case hyr2_10 => (intro w hSw; (try dsimp only at hSw); go_simp <;> with_reducible rfl)
    try simp only [Act.put, List.getElem_toArray, List.getElem_cons_succ, List.getElem_cons_zero, List.setIfInBounds_toArray, List.set_cons_zero, List.set_cons_succ]
    refine wpAnyH_done (by kernel_rfl) ?_ _
    go_wp2_with fail
    refine (aOffset_any g x0 y0 x1 y1 rt ys cs at4 _ _ _ _ c1 c2 c3 c4 z1 z2 z3 z4 c0 d0 _ (by exact HG3.out) q1 q2 q3 q4 p3 p4).mono ?_
    rintro e v3 ⟨rfl, n3, rfl⟩
    rw [K4.out]
    clear q1 q2 q3 q4 p1 p2 p3 p4 K1 K2 K4 HG3 hO
    have i1 : (0 : Int) ≤ (k1 : Int) := by omega
    have j1 : (k1 : Int) ≤ (z1.length : Int) := by omega
    have l1 : ¬ c1 = k1 := by omega
    have i2 : (0 : Int) ≤ (k2 : Int) := by omega
    have j2 : (k2 : Int) ≤ (z2.length : Int) := by omega
    have l2 : ¬ c2 = k2 := by omega
    have i3 : (0 : Int) ≤ (k2 : Int) := by omega
    have j3 : (k2 : Int) ≤ (z3.length : Int) := by omega
    have l3 : ¬ c3 = k2 := by omega
    have i4 : (0 : Int) ≤ (k4 : Int) := by omega
    have j4 : (k4 : Int) ≤ (z4.length : Int) := by omega
    have l4 : ¬ c4 = k4 := by omega
    go_wp2_with fail
    refine wp_region_held_drew (S := fun w' => w'.cell? ⟨g, 0, none⟩ = some (.slice (some ⟨b1, o1, none⟩) z1.length c1) ∧ w'.cell? ⟨g, 1, none⟩ = some (.slice (some ⟨b2, o2, none⟩) z2.length c2) ∧ w'.cell? ⟨g, 2, none⟩ = some (.slice (some ⟨b3, o3, none⟩) z3.length c3) ∧ w'.cell? ⟨g, 3, none⟩ = some (.int .i64 ys) ∧ w'.cell? ⟨g, 4, none⟩ = some (.int .i64 cs) ∧ w'.cell? ⟨g, 5, none⟩ = some (.int .i64 rt) ∧ w'.cell? ⟨g, 6, none⟩ = some (.int .i64 x0) ∧ w'.cell? ⟨g, 7, none⟩ = some (.int .i64 y0) ∧ w'.cell? ⟨g, 8, none⟩ = some (.int .i64 x1) ∧ w'.cell? ⟨g, 9, none⟩ = some (.int .i64 y1) ∧ w'.cell? ⟨g, 10, none⟩ = some (.slice (some ⟨b4, o4, none⟩) z4.length c4) ∧ w'.cell? ⟨g, 11, none⟩ = some (.int .i64 at4) ∧ w'.cell? ⟨w.heap.size, 0, none⟩ = some (.int .i64 c0) ∧ w'.cell? ⟨w.heap.size, 1, none⟩ = some (.int .i64 d0) ∧ w'.cell? ⟨w.heap.size, 2, none⟩ = some (.int .i64 c1') ∧ w'.cell? ⟨w.heap.size, 3, none⟩ = some (.int .i64 d1)) (by kernel_rfl) ?_ (fun hHeld => ?_)
    · (refine TOS.out _ ?_; (repeat (first | with_reducible exact Below.refl _ _ | with_reducible refine Below.drew ?_ | with_reducible refine below_drewN ?_ _)))
    refine wpAnyH_take (i := 0) (oi := _) (v := ?vr3_0) rfl (by kernel_rfl) (by kernel_rfl) (by kernel_rfl) (fun _ _ _ h => h) (Or.inl ⟨by rfl, ?hyr3_0⟩) (by assumption) ?restr3_0
    case hyr3_0 => (intro w hSw; (try dsimp only at hSw); go_simp <;> with_reducible rfl)
    try simp only [Act.put, List.getElem_toArray, List.getElem_cons_succ, List.getElem_cons_zero, List.setIfInBounds_toArray, List.set_cons_zero, List.set_cons_succ]
    refine wpAnyH_take (i := 1) (oi := _) (v := ?vr3_1) rfl (by kernel_rfl) (by kernel_rfl) (by kernel_rfl) (fun _ _ _ h => h) (Or.inl ⟨by rfl, ?hyr3_1⟩) (by assumption) ?restr3_1
    case hyr3_1 => (intro w hSw; (try dsimp only at hSw); go_simp <;> with_reducible rfl)
    try simp only [Act.put, List.getElem_toArray, List.getElem_cons_succ, List.getElem_cons_zero, List.setIfInBounds_toArray, List.set_cons_zero, List.set_cons_succ]
    refine wpAnyH_take (i := 2) (oi := _) (v := ?vr3_2) rfl (by kernel_rfl) (by kernel_rfl) (by kernel_rfl) (fun _ _ _ h => h) (Or.inl ⟨by rfl, ?hyr3_2⟩) (by assumption) ?restr3_2
    case hyr3_2 => (intro w hSw; (try dsimp only at hSw); go_simp <;> with_reducible rfl)
    try simp only [Act.put, List.getElem_toArray, List.getElem_cons_succ, List.getElem_cons_zero, List.setIfInBounds_toArray, List.set_cons_zero, List.set_cons_succ]
    refine wpAnyH_take (i := 3) (oi := _) (v := ?vr3_3) rfl (by kernel_rfl) (by kernel_rfl) (by kernel_rfl) (fun _ _ _ h => h) (Or.inl ⟨by rfl, ?hyr3_3⟩) (by assumption) ?restr3_3
    case hyr3_3 => (intro w hSw; (try dsimp only at hSw); go_simp <;> with_reducible rfl)
    try simp only [Act.put, List.getElem_toArray, List.getElem_cons_succ, List.getElem_cons_zero, List.setIfInBounds_toArray, List.set_cons_zero, List.set_cons_succ]
    refine wpAnyH_take (i := 4) (oi := _) (v := ?vr3_4) rfl (by kernel_rfl) (by kernel_rfl) (by kernel_rfl) (fun _ _ _ h => h) (Or.inl ⟨by rfl, ?hyr3_4⟩) (by assumption) ?restr3_4
    case hyr3_4 => (intro w hSw; (try dsimp only at hSw); go_simp <;> with_reducible rfl)
    try simp only [Act.put, List.getElem_toArray, List.getElem_cons_succ, List.getElem_cons_zero, List.setIfInBounds_toArray, List.set_cons_zero, List.set_cons_succ]
    refine wpAnyH_take (i := 5) (oi := _) (v := ?vr3_5) rfl (by kernel_rfl) (by kernel_rfl) (by kernel_rfl) (fun _ _ _ h => h) (Or.inl ⟨by rfl, ?hyr3_5⟩) (by assumption) ?restr3_5
    case hyr3_5 => (intro w hSw; (try dsimp only at hSw); go_simp <;> with_reducible rfl)
    try simp only [Act.put, List.getElem_toArray, List.getElem_cons_succ, List.getElem_cons_zero, List.setIfInBounds_toArray, List.set_cons_zero, List.set_cons_succ]
    refine wpAnyH_take (i := 6) (oi := _) (v := ?vr3_6) rfl (by kernel_rfl) (by kernel_rfl) (by kernel_rfl) (fun _ _ _ h => h) (Or.inl ⟨by rfl, ?hyr3_6⟩) (by assumption) ?restr3_6
    case hyr3_6 => (intro w hSw; (try dsimp only at hSw); go_simp <;> with_reducible rfl)
    try simp only [Act.put, List.getElem_toArray, List.getElem_cons_succ, List.getElem_cons_zero, List.setIfInBounds_toArray, List.set_cons_zero, List.set_cons_succ]
    refine wpAnyH_take (i := 7) (oi := _) (v := ?vr3_7) rfl (by kernel_rfl) (by kernel_rfl) (by kernel_rfl) (fun _ _ _ h => h) (Or.inl ⟨by rfl, ?hyr3_7⟩) (by assumption) ?restr3_7
    case hyr3_7 => (intro w hSw; (try dsimp only at hSw); go_simp <;> with_reducible rfl)
    try simp only [Act.put, List.getElem_toArray, List.getElem_cons_succ, List.getElem_cons_zero, List.setIfInBounds_toArray, List.set_cons_zero, List.set_cons_succ]
    refine wpAnyH_take (i := 8) (oi := _) (v := ?vr3_8) rfl (by kernel_rfl) (by kernel_rfl) (by kernel_rfl) (fun _ _ _ h => h) (Or.inl ⟨by rfl, ?hyr3_8⟩) (by assumption) ?restr3_8
    case hyr3_8 => (intro w hSw; (try dsimp only at hSw); go_simp <;> with_reducible rfl)
    try simp only [Act.put, List.getElem_toArray, List.getElem_cons_succ, List.getElem_cons_zero, List.setIfInBounds_toArray, List.set_cons_zero, List.set_cons_succ]
    refine wpAnyH_take (i := 9) (oi := _) (v := ?vr3_9) rfl (by kernel_rfl) (by kernel_rfl) (by kernel_rfl) (fun _ _ _ h => h) (Or.inl ⟨by rfl, ?hyr3_9⟩) (by assumption) ?restr3_9
    case hyr3_9 => (intro w hSw; (try dsimp only at hSw); go_simp <;> with_reducible rfl)
    try simp only [Act.put, List.getElem_toArray, List.getElem_cons_succ, List.getElem_cons_zero, List.setIfInBounds_toArray, List.set_cons_zero, List.set_cons_succ]
    refine wpAnyH_take (i := 10) (oi := _) (v := ?vr3_10) rfl (by kernel_rfl) (by kernel_rfl) (by kernel_rfl) (fun _ _ _ h => h) (Or.inl ⟨by rfl, ?hyr3_10⟩) (by assumption) ?restr3_10
    case hyr3_10 => (intro w hSw; (try dsimp only at hSw); go_simp <;> with_reducible rfl)
    try simp only [Act.put, List.getElem_toArray, List.getElem_cons_succ, List.getElem_cons_zero, List.setIfInBounds_toArray, List.set_cons_zero, List.set_cons_succ]
    refine wpAnyH_take (i := 11) (oi := _) (v := ?vr3_11) rfl (by kernel_rfl) (by kernel_rfl) (by kernel_rfl) (fun _ _ _ h => h) (Or.inl ⟨by rfl, ?hyr3_11⟩) (by assumption) ?restr3_11
    case hyr3_11 => (intro w hSw; (try dsimp only at hSw); go_simp <;> with_reducible rfl)
    try simp only [Act.put, List.getElem_toArray, List.getElem_cons_succ, List.getElem_cons_zero, List.setIfInBounds_toArray, List.set_cons_zero, List.set_cons_succ]
    refine wpAnyH_take (i := 12) (oi := _) (v := ?vr3_12) rfl (by kernel_rfl) (by kernel_rfl) (by kernel_rfl) (fun _ _ _ h => h) (Or.inl ⟨by rfl, ?hyr3_12⟩) (by assumption) ?restr3_12
    case hyr3_12 => (intro w hSw; (try dsimp only at hSw); go_simp <;> with_reducible rfl)
    try simp only [Act.put, List.getElem_toArray, List.getElem_cons_succ, List.getElem_cons_zero, List.setIfInBounds_toArray, List.set_cons_zero, List.set_cons_succ]
    refine wpAnyH_take (i := 13) (oi := _) (v := ?vr3_13) rfl (by kernel_rfl) (by kernel_rfl) (by kernel_rfl) (fun _ _ _ h => h) (Or.inl ⟨by rfl, ?hyr3_13⟩) (by assumption) ?restr3_13
    case hyr3_13 => (intro w hSw; (try dsimp only at hSw); go_simp <;> with_reducible rfl)
    try simp only [Act.put, List.getElem_toArray, List.getElem_cons_succ, List.getElem_cons_zero, List.setIfInBounds_toArray, List.set_cons_zero, List.set_cons_succ]
    refine wpAnyH_take (i := 14) (oi := _) (v := ?vr3_14) rfl (by kernel_rfl) (by kernel_rfl) (by kernel_rfl) (fun _ _ _ h => h) (Or.inl ⟨by rfl, ?hyr3_14⟩) (by assumption) ?restr3_14
    case hyr3_14 => (intro w hSw; (try dsimp only at hSw); go_simp <;> with_reducible rfl)
    try simp only [Act.put, List.getElem_toArray, List.getElem_cons_succ, List.getElem_cons_zero, List.setIfInBounds_toArray, List.set_cons_zero, List.set_cons_succ]
    refine wpAnyH_take (i := 15) (oi := _) (v := ?vr3_15) rfl (by kernel_rfl) (by kernel_rfl) (by kernel_rfl) (fun _ _ _ h => h) (Or.inl ⟨by rfl, ?hyr3_15⟩) (by assumption) ?restr3_15
    case hyr3_15 => (intro w hSw; (try dsimp only at hSw); go_simp <;> with_reducible rfl)
    try simp only [Act.put, List.getElem_toArray, List.getElem_cons_succ, List.getElem_cons_zero, List.setIfInBounds_toArray, List.set_cons_zero, List.set_cons_succ]
    refine wpAnyH_take (i := 16) (oi := _) (v := ?vr3_16) rfl (by kernel_rfl) (by kernel_rfl) (by kernel_rfl) (fun _ _ _ h => h) (Or.inl ⟨by rfl, ?hyr3_16⟩) (by assumption) ?restr3_16
    case hyr3_16 => (intro w hSw; (try dsimp only at hSw); go_simp <;> with_reducible rfl)
    try simp only [Act.put, List.getElem_toArray, List.getElem_cons_succ, List.getElem_cons_zero, List.setIfInBounds_toArray, List.set_cons_zero, List.set_cons_succ]
    refine wpAnyH_take (i := 17) (oi := _) (v := ?vr3_17) rfl (by kernel_rfl) (by kernel_rfl) (by kernel_rfl) (fun _ _ _ h => h) (Or.inl ⟨by rfl, ?hyr3_17⟩) (by assumption) ?restr3_17
    case hyr3_17 => (intro w hSw; (try dsimp only at hSw); go_simp <;> with_reducible rfl)
    try simp only [Act.put, List.getElem_toArray, List.getElem_cons_succ, List.getElem_cons_zero, List.setIfInBounds_toArray, List.set_cons_zero, List.set_cons_succ]
    refine wpAnyH_take (i := 18) (oi := _) (v := ?vr3_18) rfl (by kernel_rfl) (by kernel_rfl) (by kernel_rfl) (fun _ _ _ h => h) (Or.inl ⟨by rfl, ?hyr3_18⟩) (by assumption) ?restr3_18
    case hyr3_18 => (intro w hSw; (try dsimp only at hSw); go_simp <;> with_reducible rfl)
    try simp only [Act.put, List.getElem_toArray, List.getElem_cons_succ, List.getElem_cons_zero, List.setIfInBounds_toArray, List.set_cons_zero, List.set_cons_succ]
    refine wpAnyH_take (i := 19) (oi := _) (v := ?vr3_19) rfl (by kernel_rfl) (by kernel_rfl) (by kernel_rfl) (fun _ _ _ h => h) (Or.inl ⟨by rfl, ?hyr3_19⟩) (by assumption) ?restr3_19
    case hyr3_19 => (intro w hSw; (try dsimp only at hSw); go_simp <;> with_reducible rfl)
    try simp only [Act.put, List.getElem_toArray, List.getElem_cons_succ, List.getElem_cons_zero, List.setIfInBounds_toArray, List.set_cons_zero, List.set_cons_succ]
    refine wpAnyH_take (i := 20) (oi := _) (v := ?vr3_20) rfl (by kernel_rfl) (by kernel_rfl) (by kernel_rfl) (fun _ _ _ h => h) (Or.inl ⟨by rfl, ?hyr3_20⟩) (by assumption) ?restr3_20
    case hyr3_20 => (intro w hSw; (try dsimp only at hSw); go_simp <;> with_reducible rfl)
    try simp only [Act.put, List.getElem_toArray, List.getElem_cons_succ, List.getElem_cons_zero, List.setIfInBounds_toArray, List.set_cons_zero, List.set_cons_succ]
    refine wpAnyH_take (i := 21) (oi := _) (v := ?vr3_21) rfl (by kernel_rfl) (by kernel_rfl) (by kernel_rfl) (fun _ _ _ h => h) (Or.inl ⟨by rfl, ?hyr3_21⟩) (by assumption) ?restr3_21
    case hyr3_21 => (intro w hSw; (try dsimp only at hSw); go_simp <;> with_reducible rfl)
    try simp only [Act.put, List.getElem_toArray, List.getElem_cons_succ, List.getElem_cons_zero, List.setIfInBounds_toArray, List.set_cons_zero, List.set_cons_succ]
    refine wpAnyH_take (i := 22) (oi := _) (v := ?vr3_22) rfl (by kernel_rfl) (by kernel_rfl) (by kernel_rfl) (fun _ _ _ h => h) (Or.inl ⟨by rfl, ?hyr3_22⟩) (by assumption) ?restr3_22
    case hyr3_22 => (intro w hSw; (try dsimp only at hSw); go_simp <;> with_reducible rfl)
    try simp only [Act.put, List.getElem_toArray, List.getElem_cons_succ, List.getElem_cons_zero, List.setIfInBounds_toArray, List.set_cons_zero, List.set_cons_succ]
    refine wpAnyH_take (i := 23) (oi := _) (v := ?vr3_23) rfl (by kernel_rfl) (by kernel_rfl) (by kernel_rfl) (fun _ _ _ h => h) (Or.inl ⟨by rfl, ?hyr3_23⟩) (by assumption) ?restr3_23
    case hyr3_23 => (intro w hSw; (try dsimp only at hSw); go_simp <;> with_reducible rfl)
    try simp only [Act.put, List.getElem_toArray, List.getElem_cons_succ, List.getElem_cons_zero, List.setIfInBounds_toArray, List.set_cons_zero, List.set_cons_succ]
    refine wpAnyH_take (i := 24) (oi := _) (v := ?vr3_24) rfl (by kernel_rfl) (by kernel_rfl) (by kernel_rfl) (fun _ _ _ h => h) (Or.inl ⟨by rfl, ?hyr3_24⟩) (by assumption) ?restr3_24
    case hyr3_24 => (intro w hSw; (try dsimp only at hSw); go_simp <;> with_reducible rfl)
    try simp only [Act.put, List.getElem_toArray, List.getElem_cons_succ, List.getElem_cons_zero, List.setIfInBounds_toArray, List.set_cons_zero, List.set_cons_succ]
    refine wpAnyH_take (i := 25) (oi := _) (v := ?vr3_25) rfl (by kernel_rfl) (by kernel_rfl) (by kernel_rfl) (fun _ _ _ h => h) (Or.inl ⟨by rfl, ?hyr3_25⟩) (by assumption) ?restr3_25
    case hyr3_25 => (intro w hSw; (try dsimp only at hSw); go_simp <;> with_reducible rfl)
    try simp only [Act.put, List.getElem_toArray, List.getElem_cons_succ, List.getElem_cons_zero, List.setIfInBounds_toArray, List.set_cons_zero, List.set_cons_succ]
    refine wpAnyH_take (i := 26) (oi := _) (v := ?vr3_26) rfl (by kernel_rfl) (by kernel_rfl) (by kernel_rfl) (fun _ _ _ h => h) (Or.inl ⟨by rfl, ?hyr3_26⟩) (by assumption) ?restr3_26
    case hyr3_26 => (intro w hSw; (try dsimp only at hSw); go_simp <;> with_reducible rfl)
    try simp only [Act.put, List.getElem_toArray, List.getElem_cons_succ, List.getElem_cons_zero, List.setIfInBounds_toArray, List.set_cons_zero, List.set_cons_succ]
    refine wpAnyH_take (i := 27) (oi := _) (v := ?vr3_27) rfl (by kernel_rfl) (by kernel_rfl) (by kernel_rfl) (fun _ _ _ h => h) (Or.inl ⟨by rfl, ?hyr3_27⟩) (by assumption) ?restr3_27
    case hyr3_27 => (intro w hSw; (try dsimp only at hSw); go_simp <;> with_reducible rfl)
    try simp only [Act.put, List.getElem_toArray, List.getElem_cons_succ, List.getElem_cons_zero, List.setIfInBounds_toArray, List.set_cons_zero, List.set_cons_succ]
    refine wpAnyH_take (i := 28) (oi := _) (v := ?vr3_28) rfl (by kernel_rfl) (by kernel_rfl) (by kernel_rfl) (fun _ _ _ h => h) (Or.inl ⟨by rfl, ?hyr3_28⟩) (by assumption) ?restr3_28
    case hyr3_28 => (intro w hSw; (try dsimp only at hSw); go_simp <;> with_reducible rfl)
    try simp only [Act.put, List.getElem_toArray, List.getElem_cons_succ, List.getElem_cons_zero, List.setIfInBounds_toArray, List.set_cons_zero, List.set_cons_succ]
    refine wpAnyH_take (i := 29) (oi := _) (v := ?vr3_29) rfl (by kernel_rfl) (by kernel_rfl) (by kernel_rfl) (fun _ _ _ h => h) (Or.inl ⟨by rfl, ?hyr3_29⟩) (by assumption) ?restr3_29
    case hyr3_29 => (intro w hSw; (try dsimp only at hSw); go_simp <;> with_reducible rfl)
    try simp only [Act.put, List.getElem_toArray, List.getElem_cons_succ, List.getElem_cons_zero, List.setIfInBounds_toArray, List.set_cons_zero, List.set_cons_succ]
    refine wpAnyH_take (i := 30) (oi := _) (v := ?vr3_30) rfl (by kernel_rfl) (by kernel_rfl) (by kernel_rfl) (fun _ _ _ h => h) (Or.inl ⟨by rfl, ?hyr3_30⟩) (by assumption) ?restr3_30
    case hyr3_30 => (intro w hSw; (try dsimp only at hSw); go_simp <;> with_reducible rfl)
    try simp only [Act.put, List.getElem_toArray, List.getElem_cons_succ, List.getElem_cons_zero, List.setIfInBounds_toArray, List.set_cons_zero, List.set_cons_succ]
    refine wpAnyH_take (i := 31) (oi := _) (v := ?vr3_31) rfl (by kernel_rfl) (by kernel_rfl) (by kernel_rfl) (fun _ _ _ h => h) (Or.inl ⟨by rfl, ?hyr3_31⟩) (by assumption) ?restr3_31
    case hyr3_31 => (intro w hSw; (try dsimp only at hSw); go_simp <;> with_reducible rfl)
    try simp only [Act.put, List.getElem_toArray, List.getElem_cons_succ, List.getElem_cons_zero, List.setIfInBounds_toArray, List.set_cons_zero, List.set_cons_succ]
    refine wpAnyH_take (i := 32) (oi := _) (v := ?vr3_32) rfl (by kernel_rfl) (by kernel_rfl) (by kernel_rfl) (fun _ _ _ h => h) (Or.inl ⟨by rfl, ?hyr3_32⟩) (by assumption) ?restr3_32
    case hyr3_32 => (intro w hSw; (try dsimp only at hSw); go_simp <;> with_reducible rfl)
    try simp only [Act.put, List.getElem_toArray, List.getElem_cons_succ, List.getElem_cons_zero, List.setIfInBounds_toArray, List.set_cons_zero, List.set_cons_succ]
    refine wpAnyH_take (i := 33) (oi := _) (v := ?vr3_33) rfl (by kernel_rfl) (by kernel_rfl) (by kernel_rfl) (fun _ _ _ h => h) (Or.inl ⟨by rfl, ?hyr3_33⟩) (by assumption) ?restr3_33
    case hyr3_33 => (intro w hSw; (try dsimp only at hSw); go_simp <;> with_reducible rfl)
    try simp only [Act.put, List.getElem_toArray, List.getElem_cons_succ, List.getElem_cons_zero, List.setIfInBounds_toArray, List.set_cons_zero, List.set_cons_succ]
    refine wpAnyH_take (i := 34) (oi := _) (v := ?vr3_34) rfl (by kernel_rfl) (by kernel_rfl) (by kernel_rfl) (fun _ _ _ h => h) (Or.inl ⟨by rfl, ?hyr3_34⟩) (by assumption) ?restr3_34
    case hyr3_34 => (intro w hSw; (try dsimp only at hSw); go_simp <;> with_reducible rfl)
    try simp only [Act.put, List.getElem_toArray, List.getElem_cons_succ, List.getElem_cons_zero, List.setIfInBounds_toArray, List.set_cons_zero, List.set_cons_succ]
    refine wpAnyH_take (i := 35) (oi := _) (v := ?vr3_35) rfl (by kernel_rfl) (by kernel_rfl) (by kernel_rfl) (fun _ _ _ h => h) (Or.inl ⟨by rfl, ?hyr3_35⟩) (by assumption) ?restr3_35
    case hyr3_35 => (intro w hSw; (try dsimp only at hSw); go_simp <;> with_reducible rfl)
    try simp only [Act.put, List.getElem_toArray, List.getElem_cons_succ, List.getElem_cons_zero, List.setIfInBounds_toArray, List.set_cons_zero, List.set_cons_succ]
    refine wpAnyH_take (i := 36) (oi := _) (v := ?vr3_36) rfl (by kernel_rfl) (by kernel_rfl) (by kernel_rfl) (fun _ _ _ h => h) (Or.inl ⟨by rfl, ?hyr3_36⟩) (by assumption) ?restr3_36
    case hyr3_36 => (intro w hSw; (try dsimp only at hSw); go_simp <;> with_reducible rfl)
    try simp only [Act.put, List.getElem_toArray, List.getElem_cons_succ, List.getElem_cons_zero, List.setIfInBounds_toArray, List.set_cons_zero, List.set_cons_succ]
    refine wpAnyH_take (i := 37) (oi := _) (v := ?vr3_37) rfl (by kernel_rfl) (by kernel_rfl) (by kernel_rfl) (fun _ _ _ h => h) (Or.inl ⟨by rfl, ?hyr3_37⟩) (by assumption) ?restr3_37
    case hyr3_37 => (intro w hSw; (try dsimp only at hSw); go_simp <;> with_reducible rfl)
    try simp only [Act.put, List.getElem_toArray, List.getElem_cons_succ, List.getElem_cons_zero, List.setIfInBounds_toArray, List.set_cons_zero, List.set_cons_succ]
    refine wpAnyH_take (i := 38) (oi := _) (v := ?vr3_38) rfl (by kernel_rfl) (by kernel_rfl) (by kernel_rfl) (fun _ _ _ h => h) (Or.inl ⟨by rfl, ?hyr3_38⟩) (by assumption) ?restr3_38
    case hyr3_38 => (intro w hSw; (try dsimp only at hSw); go_simp <;> with_reducible rfl)
    try simp only [Act.put, List.getElem_toArray, List.getElem_cons_succ, List.getElem_cons_zero, List.setIfInBounds_toArray, List.set_cons_zero, List.set_cons_succ]
    refine wpAnyH_take (i := 39) (oi := _) (v := ?vr3_39) rfl (by kernel_rfl) (by kernel_rfl) (by kernel_rfl) (fun _ _ _ h => h) (Or.inl ⟨by rfl, ?hyr3_39⟩) (by assumption) ?restr3_39
    case hyr3_39 => (intro w hSw; (try dsimp only at hSw); go_simp <;> with_reducible rfl)
    try simp only [Act.put, List.getElem_toArray, List.getElem_cons_succ, List.getElem_cons_zero, List.setIfInBounds_toArray, List.set_cons_zero, List.set_cons_succ]
    refine wpAnyH_take (i := 40) (oi := _) (v := ?vr3_40) rfl (by kernel_rfl) (by kernel_rfl) (by kernel_rfl) (fun _ _ _ h => h) (Or.inl ⟨by rfl, ?hyr3_40⟩) (by assumption) ?restr3_40
    case hyr3_40 => (intro w hSw; (try dsimp only at hSw); go_simp <;> with_reducible rfl)
    try simp only [Act.put, List.getElem_toArray, List.getElem_cons_succ, List.getElem_cons_zero, List.setIfInBounds_toArray, List.set_cons_zero, List.set_cons_succ]
    refine wpAnyH_take (i := 41) (oi := _) (v := ?vr3_41) rfl (by kernel_rfl) (by kernel_rfl) (by kernel_rfl) (fun _ _ _ h => h) (Or.inl ⟨by rfl, ?hyr3_41⟩) (by assumption) ?restr3_41
    case hyr3_41 => (intro w hSw; (try dsimp only at hSw); go_simp <;> with_reducible rfl)
    try simp only [Act.put, List.getElem_toArray, List.getElem_cons_succ, List.getElem_cons_zero, List.setIfInBounds_toArray, List.set_cons_zero, List.set_cons_succ]
    refine wpAnyH_take (i := 42) (oi := _) (v := ?vr3_42) rfl (by kernel_rfl) (by kernel_rfl) (by kernel_rfl) (fun _ _ _ h => h) (Or.inl ⟨by rfl, ?hyr3_42⟩) (by assumption) ?restr3_42
    case hyr3_42 => (intro w hSw; (try dsimp only at hSw); go_simp <;> with_reducible rfl)
    try simp only [Act.put, List.getElem_toArray, List.getElem_cons_succ, List.getElem_cons_zero, List.setIfInBounds_toArray, List.set_cons_zero, List.set_cons_succ]
    refine wpAnyH_take (i := 43) (oi := _) (v := ?vr3_43) rfl (by kernel_rfl) (by kernel_rfl) (by kernel_rfl) (fun _ _ _ h => h) (Or.inl ⟨by rfl, ?hyr3_43⟩) (by assumption) ?restr3_43
    case hyr3_43 => (intro w hSw; (try dsimp only at hSw); go_simp <;> with_reducible rfl)
    try simp only [Act.put, List.getElem_toArray, List.getElem_cons_succ, List.getElem_cons_zero, List.setIfInBounds_toArray, List.set_cons_zero, List.set_cons_succ]
    refine wpAnyH_take (i := 44) (oi := _) (v := ?vr3_44) rfl (by kernel_rfl) (by kernel_rfl) (by kernel_rfl) (fun _ _ _ h => h) (Or.inl ⟨by rfl, ?hyr3_44⟩) (by assumption) ?restr3_44
    case hyr3_44 => (intro w hSw; (try dsimp only at hSw); go_simp <;> with_reducible rfl)
    try simp only [Act.put, List.getElem_toArray, List.getElem_cons_succ, List.getElem_cons_zero, List.setIfInBounds_toArray, List.set_cons_zero, List.set_cons_succ]
    refine wpAnyH_take (i := 45) (oi := _) (v := ?vr3_45) rfl (by kernel_rfl) (by kernel_rfl) (by kernel_rfl) (fun _ _ _ h => h) (Or.inl ⟨by rfl, ?hyr3_45⟩) (by assumption) ?restr3_45
    case hyr3_45 => (intro w hSw; (try dsimp only at hSw); go_simp <;> with_reducible rfl)
    try simp only [Act.put, List.getElem_toArray, List.getElem_cons_succ, List.getElem_cons_zero, List.setIfInBounds_toArray, List.set_cons_zero, List.set_cons_succ]
    refine wpAnyH_take (i := 46) (oi := _) (v := ?vr3_46) rfl (by kernel_rfl) (by kernel_rfl) (by kernel_rfl) (fun _ _ _ h => h) (Or.inl ⟨by rfl, ?hyr3_46⟩) (by assumption) ?restr3_46
    case hyr3_46 => (intro w hSw; (try dsimp only at hSw); go_simp <;> with_reducible rfl)
    try simp only [Act.put, List.getElem_toArray, List.getElem_cons_succ, List.getElem_cons_zero, List.setIfInBounds_toArray, List.set_cons_zero, List.set_cons_succ]
    refine wpAnyH_take (i := 47) (oi := _) (v := ?vr3_47) rfl (by kernel_rfl) (by kernel_rfl) (by kernel_rfl) (fun _ _ _ h => h) (Or.inl ⟨by rfl, ?hyr3_47⟩) (by assumption) ?restr3_47
    case hyr3_47 => (intro w hSw; (try dsimp only at hSw); go_simp <;> with_reducible rfl)
    try simp only [Act.put, List.getElem_toArray, List.getElem_cons_succ, List.getElem_cons_zero, List.setIfInBounds_toArray, List.set_cons_zero, List.set_cons_succ]
    refine wpAnyH_take (i := 48) (oi := _) (v := ?vr3_48) rfl (by kernel_rfl) (by kernel_rfl) (by kernel_rfl) (fun _ _ _ h => h) (Or.inl ⟨by rfl, ?hyr3_48⟩) (by assumption) ?restr3_48
    case hyr3_48 => (intro w hSw; (try dsimp only at hSw); go_simp <;> with_reducible rfl)
    try simp only [Act.put, List.getElem_toArray, List.getElem_cons_succ, List.getElem_cons_zero, List.setIfInBounds_toArray, List.set_cons_zero, List.set_cons_succ]
    refine wpAnyH_ready (rs := [49]) (by kernel_rfl) (by simp) ?_
    refine AllReadyH.cons (o := _) rfl (fun K hK => ?_) AllReadyH.nil
    go_simp
    refine hK.out _ _ ?_ (fun hHeld => ?_)
    · (refine TOS.out _ ?_; refine Below.alloc ?_ (by simp) _; (repeat (first | with_reducible exact Below.refl _ _ | with_reducible refine Below.drew ?_ | with_reducible refine below_drewN ?_ _)))
    clear hK K
    try simp only [Act.put, List.getElem_toArray, List.getElem_cons_succ, List.getElem_cons_zero, List.setIfInBounds_toArray, List.set_cons_zero, List.set_cons_succ]
    refine wpAnyH_take (i := 50) (oi := _) (v := ?vr3_50) rfl (by kernel_rfl) (by kernel_rfl) (by kernel_rfl) (fun _ _ _ h => h) (Or.inl ⟨by rfl, ?hyr3_50⟩) (by assumption) ?restr3_50
    case hyr3_50 => (intro w hSw; (try dsimp only at hSw); go_simp <;> with_reducible rfl)
    try simp only [Act.put, List.getElem_toArray, List.getElem_cons_succ, List.getElem_cons_zero, List.setIfInBounds_toArray, List.set_cons_zero, List.set_cons_succ]
    refine wpAnyH_take (i := 51) (oi := _) (v := ?vr3_51) rfl (by kernel_rfl) (by kernel_rfl) (by kernel_rfl) (fun _ _ _ h => h) (Or.inl ⟨by rfl, ?hyr3_51⟩) (by assumption) ?restr3_51
    case hyr3_51 => (intro w hSw; (try dsimp only at hSw); go_simp <;> with_reducible rfl)
    try simp only [Act.put, List.getElem_toArray, List.getElem_cons_succ, List.getElem_cons_zero, List.setIfInBounds_toArray, List.set_cons_zero, List.set_cons_succ]
    refine wpAnyH_done (by kernel_rfl) ?_ _
    go_wp2
    go_ret
    exact ⟨w3.heap.size, by simp, hz3, heap_alloc_new _ _, by first | exact (below_drewN hB3 _).alloc hB3.size _ | exact ((below_drewN hB3 _).drew).alloc hB3.size _⟩

end Go.Proofs.Ytcomldkihibfjaa
