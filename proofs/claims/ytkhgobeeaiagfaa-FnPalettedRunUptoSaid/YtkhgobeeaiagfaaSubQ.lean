/- Plates: the method SubImage; impl.PalettedSub. -/
import Derived.Test.YtkhgobeeaiagfaaSetQ
import Derived.Test.YtkhgobeeaiagfaaInter
import Derived.Test.YtkhgobeeaiagfaaPlainSub
import Derived.Deep.RegionWith
namespace Go.Proofs.Ytkhgobeeaiagfaa
open Go.RowKit
set_option linter.unusedVariables false
set_option linter.unusedSimpArgs false

/-- What SubImage hands back: an image with this header. -/
def SubBack (cs : Array Value) (w : World) (e : Ending) (w' : World) : Prop :=
  ∃ g : Nat, e = .returned (.iface 69 (.pointer (some ⟨g, 0, none⟩))) ∧ w.heap.size ≤ g ∧ w'.heap[g]? = some (.cells cs 94 (0, 0)) ∧ Below w.heap.size w w'
set_option maxRecDepth 100000 in
set_option maxHeartbeats 2000000 in
theorem subImage_none (g : Nat) (x0 y0 x1 y1 s : Int) (A : Option Addr) (c : Nat) (zs : List Int) (B : Option Addr) (k : Nat) (ps : List (Int × Int × Int × Int)) (a0 b0 a1 b1 : Int) (w : World) (hg : w.heap[g]? = some (.cells #[.slice A zs.length c, .int .i64 s, .int .i64 x0, .int .i64 y0, .int .i64 x1, .int .i64 y1, .slice B ps.length k] 94 (0, 0))) (hE : Hid (min x1 a1 ≤ max x0 a0 ∨ min y1 b1 ≤ max y0 b0)) :
    Calls Try.prog 54 #[.pointer (some ⟨g, 0, none⟩), .agg #[.int .i64 a0, .int .i64 b0, .int .i64 a1, .int .i64 b1]] w (SubBack #[.slice none 0 0, .int .i64 0, .int .i64 0, .int .i64 0, .int .i64 0, .int .i64 0, .slice B ps.length k] w) := by
  have HG := Lib.hid hg
  have hgl : g < w.heap.size := heap_lt hg
  have g0 := row_cell (i := 0) (v := .slice A zs.length c) hg rfl
  have g1 := row_cell (i := 1) (v := .int .i64 s) hg rfl
  have g2 := row_cell (i := 2) (v := .int .i64 x0) hg rfl
  have g3 := row_cell (i := 3) (v := .int .i64 y0) hg rfl
  have g4 := row_cell (i := 4) (v := .int .i64 x1) hg rfl
  have g5 := row_cell (i := 5) (v := .int .i64 y1) hg rfl
  have g6 := row_cell (i := 6) (v := .slice B ps.length k) hg rfl
  clear hg
  clear HG
  go_enter Try.func54, Try.ntmps54
  go_wp2
  go_upto_region 1 with fail
  go_cut [11] (fun _q wx => Below w.heap.size w wx ∧ w.heap.size < wx.heap.size ∧ wx.cell? ⟨w.heap.size, 0, none⟩ = some (.int .i64 0) ∧ wx.cell? ⟨w.heap.size, 1, none⟩ = some (.int .i64 0) ∧ wx.cell? ⟨w.heap.size, 2, none⟩ = some (.int .i64 0) ∧ wx.cell? ⟨w.heap.size, 3, none⟩ = some (.int .i64 0))
  case first =>
    go_region_with (go_at_call 61; refine (inter_none x0 y0 x1 y1 a0 b0 a1 b1 _ hE.out).mono ?_; rintro e w1 ⟨rfl, hb1⟩; have hB1 : Below w.heap.size w w1 := ((Below.refl _ _).alloc (Nat.le_refl _) _).drew.trans (hb1.mono (by simp)); have k0 := fun o => (bcell hb1).1 w.heap.size o (by simp); have f0 := fun o => (bcell hb1).2 w.heap.size o (by simp))
    all_goals
      have hz1 : w.heap.size < w1.heap.size := by have := hb1.size; simp at this; omega
      clear hb1
      go_wp2_with fail
      go_meet
      exact ⟨(((hB1.setCell (Nat.le_refl _) _).setCell (Nat.le_refl _) _).setCell (Nat.le_refl _) _).setCell (Nat.le_refl _) _, by simp [World.setCell]; omega, by go_simp, by go_simp, by go_simp, by go_simp⟩
  case rest =>
    obtain ⟨hB1, hz1, k0, k1', k2', k3⟩ := hcut
    replace g0 := cell_kept g0 hB1
    replace g1 := cell_kept g1 hB1
    replace g2 := cell_kept g2 hB1
    replace g3 := cell_kept g3 hB1
    replace g4 := cell_kept g4 hB1
    replace g5 := cell_kept g5 hB1
    replace g6 := cell_kept g6 hB1
    go_wp2_with fail
    refine (rempt_any 0 0 0 0 true (by simp [Empt]) _).mono ?_
    rintro e w3 ⟨rfl, hb3⟩
    have hB3 : Below w.heap.size w w3 := hB1.trans (hb3.mono hB1.size)
    have u6 := cell_kept g6 hb3
    clear hb3 k0 k1' k2' k3 g0 g1 g2 g3 g4 g5 g6 hz1 hB1
    go_wp2
    go_ret
    exact ⟨w3.heap.size, by simp, hB3.size, heap_alloc_new _ _, hB3.alloc hB3.size _⟩

set_option maxRecDepth 100000 in
set_option maxHeartbeats 2000000 in
theorem subImage_some (g b o c k m : Nat) (x0 y0 x1 y1 s : Int) (zs : List Int) (B : Option Addr) (ps : List (Int × Int × Int × Int)) (a0 b0 a1 b1 c0 d0 c1 d1 : Int) (w : World) (hg : w.heap[g]? = some (.cells #[.slice (some ⟨b, o, none⟩) zs.length c, .int .i64 s, .int .i64 x0, .int .i64 y0, .int .i64 x1, .int .i64 y1, .slice B ps.length k] 94 (0, 0)))
    (m1 : Hid (max x0 a0 = c0)) (m2 : Hid (max y0 b0 = d0)) (m3 : Hid (min x1 a1 = c1)) (m4 : Hid (min y1 b1 = d1)) (n5 : c0 < c1) (n6 : d0 < d1)
    (HK : Hid ((d0 - y0) * s + (c0 - x0) = m)) (hk : (m : Int) < zs.length) (hc : (zs.length : Int) ≤ c) (hcm : (c : Int) ≤ 9223372036854775807)
    (q1 : -4398046511104 ≤ d0 - y0) (q2 : d0 - y0 ≤ 4398046511104) (q3 : -4398046511104 ≤ c0 - x0) (q4 : c0 - x0 ≤ 4398046511104) (p1 : -2305843009213693952 ≤ (d0 - y0) * s) (p2 : (d0 - y0) * s ≤ 2305843009213693952) :
    Calls Try.prog 54 #[.pointer (some ⟨g, 0, none⟩), .agg #[.int .i64 a0, .int .i64 b0, .int .i64 a1, .int .i64 b1]] w (SubBack #[.slice (some ⟨b, o + m, none⟩) (zs.length - m) (c - m), .int .i64 s, .int .i64 c0, .int .i64 d0, .int .i64 c1, .int .i64 d1, .slice B ps.length k] w) := by
  have N5 : Hid (max x0 a0 < min x1 a1) := by unfold Hid; rw [m1.out, m3.out]; exact n5
  have N6 : Hid (max y0 b0 < min y1 b1) := by unfold Hid; rw [m2.out, m4.out]; exact n6
  obtain ⟨e1, e2, e3, e4⟩ : Hid (max c0 x0 = c0) ∧ Hid (max d0 y0 = d0) ∧ Hid (min c1 x1 = c1) ∧ Hid (min d1 y1 = d1) := by
    have := m1.out; have := m2.out; have := m3.out; have := m4.out
    exact ⟨show Hid _ from (by unfold Hid; omega), show Hid _ from (by unfold Hid; omega), show Hid _ from (by unfold Hid; omega), show Hid _ from (by unfold Hid; omega)⟩
  have M5 : Hid (max c0 x0 < min c1 x1) := by unfold Hid; rw [e1.out, e3.out]; exact n5
  have M6 : Hid (max d0 y0 < min d1 y1) := by unfold Hid; rw [e2.out, e4.out]; exact n6
  have HG := Lib.hid hg
  have hgl : g < w.heap.size := heap_lt hg
  have g0 := row_cell (i := 0) (v := .slice (some ⟨b, o, none⟩) zs.length c) hg rfl
  have g1 := row_cell (i := 1) (v := .int .i64 s) hg rfl
  have g2 := row_cell (i := 2) (v := .int .i64 x0) hg rfl
  have g3 := row_cell (i := 3) (v := .int .i64 y0) hg rfl
  have g4 := row_cell (i := 4) (v := .int .i64 x1) hg rfl
  have g5 := row_cell (i := 5) (v := .int .i64 y1) hg rfl
  have g6 := row_cell (i := 6) (v := .slice B ps.length k) hg rfl
  clear hg
  go_enter Try.func54, Try.ntmps54
  go_wp2
  go_upto_region 1 with fail
  go_cut [11] (fun _q wx => Below w.heap.size w wx ∧ w.heap.size < wx.heap.size ∧ wx.cell? ⟨w.heap.size, 0, none⟩ = some (.int .i64 c0) ∧ wx.cell? ⟨w.heap.size, 1, none⟩ = some (.int .i64 d0) ∧ wx.cell? ⟨w.heap.size, 2, none⟩ = some (.int .i64 c1) ∧ wx.cell? ⟨w.heap.size, 3, none⟩ = some (.int .i64 d1))
  case first =>
    go_region_with (go_at_call 61; refine (inter_some x0 y0 x1 y1 a0 b0 a1 b1 _ N5.out N6.out).mono ?_; rintro e w1 ⟨rfl, hb1⟩; rw [m1.out, m2.out, m3.out, m4.out]; have hB1 : Below w.heap.size w w1 := ((Below.refl _ _).alloc (Nat.le_refl _) _).drew.trans (hb1.mono (by simp)); have k0 := fun o => (bcell hb1).1 w.heap.size o (by simp); have f0 := fun o => (bcell hb1).2 w.heap.size o (by simp))
    all_goals
      have hz1 : w.heap.size < w1.heap.size := by have := hb1.size; simp at this; omega
      clear hb1
      go_wp2_with fail
      go_meet
      exact ⟨(((hB1.setCell (Nat.le_refl _) _).setCell (Nat.le_refl _) _).setCell (Nat.le_refl _) _).setCell (Nat.le_refl _) _, by simp [World.setCell]; omega, by go_simp, by go_simp, by go_simp, by go_simp⟩
  case rest =>
    obtain ⟨hB1, hz1, k0, k1', k2', k3⟩ := hcut
    replace g0 := cell_kept g0 hB1
    replace g1 := cell_kept g1 hB1
    replace g2 := cell_kept g2 hB1
    replace g3 := cell_kept g3 hB1
    replace g4 := cell_kept g4 hB1
    replace g5 := cell_kept g5 hB1
    replace g6 := cell_kept g6 hB1
    go_wp2_with fail
    refine (rempt_any c0 d0 c1 d1 false (by simp [Empt]; omega) _).mono ?_
    rintro e w3 ⟨rfl, hb3⟩
    have hB3 : Below w.heap.size w w3 := hB1.trans (hb3.mono hB1.size)
    have t0 := cell_kept k0 hb3
    have t1 := cell_kept k1' hb3
    have t2 := cell_kept k2' hb3
    have t3 := cell_kept k3 hb3
    have u0 := cell_kept g0 hb3
    have u1 := cell_kept g1 hb3
    have u2 := cell_kept g2 hb3
    have u3 := cell_kept g3 hb3
    have u4 := cell_kept g4 hb3
    have u5 := cell_kept g5 hb3
    have u6 := cell_kept g6 hb3
    have HG3 := Lib.hid (heap_kept HG.out hB3)
    have hz3 : w.heap.size ≤ w3.heap.size := hB3.size
    clear hb3 k0 k1' k2' k3 g0 g1 g2 g3 g4 g5 g6 hz1 hB1 HG
    go_wp2_with fail
    refine (pixOffset_any g x0 y0 x1 y1 s _ c zs B k ps c0 d0 _ (by exact HG3.out) q1 q2 q3 q4 p1 p2).mono ?_
    rintro e w4 ⟨rfl, n1, rfl⟩
    rw [HK.out]
    clear q1 q2 q3 q4 p1 p2 HK HG3
    have i0 : (0 : Int) ≤ (m : Int) := by omega
    have i1 : (m : Int) ≤ (zs.length : Int) := by omega
    have i2 : ¬ c = m := by omega
    have toS : ∀ W' : World, Below w3.heap.size w3 W' → (W'.cell? ⟨g, 0, none⟩ = some (.slice (some ⟨b, o, none⟩) zs.length c) ∧ W'.cell? ⟨g, 1, none⟩ = some (.int .i64 s) ∧ W'.cell? ⟨g, 2, none⟩ = some (.int .i64 x0) ∧ W'.cell? ⟨g, 3, none⟩ = some (.int .i64 y0) ∧ W'.cell? ⟨g, 4, none⟩ = some (.int .i64 x1) ∧ W'.cell? ⟨g, 5, none⟩ = some (.int .i64 y1) ∧ W'.cell? ⟨g, 6, none⟩ = some (.slice B ps.length k) ∧ W'.cell? ⟨w.heap.size, 0, none⟩ = some (.int .i64 c0) ∧ W'.cell? ⟨w.heap.size, 1, none⟩ = some (.int .i64 d0) ∧ W'.cell? ⟨w.heap.size, 2, none⟩ = some (.int .i64 c1) ∧ W'.cell? ⟨w.heap.size, 3, none⟩ = some (.int .i64 d1)) := fun W' h => ⟨cell_kept u0 h, cell_kept u1 h, cell_kept u2 h, cell_kept u3 h, cell_kept u4 h, cell_kept u5 h, cell_kept u6 h, cell_kept t0 h, cell_kept t1 h, cell_kept t2 h, cell_kept t3 h⟩
    have TOS := Lib.hid toS
    clear toS
    have P0 : Below w3.heap.size w3 (w3.drewN n1).drew := (below_drewN (Below.refl _ _) _).drew
    go_wp2_with fail
    refine wp_region_held_drew (S := fun w' => w'.cell? ⟨g, 0, none⟩ = some (.slice (some ⟨b, o, none⟩) zs.length c) ∧ w'.cell? ⟨g, 1, none⟩ = some (.int .i64 s) ∧ w'.cell? ⟨g, 2, none⟩ = some (.int .i64 x0) ∧ w'.cell? ⟨g, 3, none⟩ = some (.int .i64 y0) ∧ w'.cell? ⟨g, 4, none⟩ = some (.int .i64 x1) ∧ w'.cell? ⟨g, 5, none⟩ = some (.int .i64 y1) ∧ w'.cell? ⟨g, 6, none⟩ = some (.slice B ps.length k) ∧ w'.cell? ⟨w.heap.size, 0, none⟩ = some (.int .i64 c0) ∧ w'.cell? ⟨w.heap.size, 1, none⟩ = some (.int .i64 d0) ∧ w'.cell? ⟨w.heap.size, 2, none⟩ = some (.int .i64 c1) ∧ w'.cell? ⟨w.heap.size, 3, none⟩ = some (.int .i64 d1)) (by kernel_rfl) ?_ (fun hHeld => ?_)
    · (refine TOS.out _ ?_; (repeat (first | with_reducible exact Below.refl _ _ | with_reducible exact P1 | with_reducible refine Below.drew ?_ | with_reducible refine below_drewN ?_ _)))
    refine wpAnyH_take (i := 0) (oi := _) (v := ?v0) rfl (by kernel_rfl) (by kernel_rfl) (by kernel_rfl) (fun _ _ _ h => h) (Or.inl ⟨by rfl, ?hy0⟩) (by assumption) ?rest0
    case hy0 => (intro w hSw; (try dsimp only at hSw); go_simp <;> with_reducible rfl)
    try simp only [Act.put, List.getElem_toArray, List.getElem_cons_succ, List.getElem_cons_zero, List.setIfInBounds_toArray, List.set_cons_zero, List.set_cons_succ]
    refine wpAnyH_take (i := 1) (oi := _) (v := ?v1) rfl (by kernel_rfl) (by kernel_rfl) (by kernel_rfl) (fun _ _ _ h => h) (Or.inl ⟨by rfl, ?hy1⟩) (by assumption) ?rest1
    case hy1 => (intro w hSw; (try dsimp only at hSw); go_simp <;> with_reducible rfl)
    try simp only [Act.put, List.getElem_toArray, List.getElem_cons_succ, List.getElem_cons_zero, List.setIfInBounds_toArray, List.set_cons_zero, List.set_cons_succ]
    refine wpAnyH_take (i := 2) (oi := _) (v := ?v2) rfl (by kernel_rfl) (by kernel_rfl) (by kernel_rfl) (fun _ _ _ h => h) (Or.inl ⟨by rfl, ?hy2⟩) (by assumption) ?rest2
    case hy2 => (intro w hSw; (try dsimp only at hSw); go_simp <;> with_reducible rfl)
    try simp only [Act.put, List.getElem_toArray, List.getElem_cons_succ, List.getElem_cons_zero, List.setIfInBounds_toArray, List.set_cons_zero, List.set_cons_succ]
    refine wpAnyH_take (i := 3) (oi := _) (v := ?v3) rfl (by kernel_rfl) (by kernel_rfl) (by kernel_rfl) (fun _ _ _ h => h) (Or.inl ⟨by rfl, ?hy3⟩) (by assumption) ?rest3
    case hy3 => (intro w hSw; (try dsimp only at hSw); go_simp <;> with_reducible rfl)
    try simp only [Act.put, List.getElem_toArray, List.getElem_cons_succ, List.getElem_cons_zero, List.setIfInBounds_toArray, List.set_cons_zero, List.set_cons_succ]
    refine wpAnyH_take (i := 4) (oi := _) (v := ?v4) rfl (by kernel_rfl) (by kernel_rfl) (by kernel_rfl) (fun _ _ _ h => h) (Or.inl ⟨by rfl, ?hy4⟩) (by assumption) ?rest4
    case hy4 => (intro w hSw; (try dsimp only at hSw); go_simp <;> with_reducible rfl)
    try simp only [Act.put, List.getElem_toArray, List.getElem_cons_succ, List.getElem_cons_zero, List.setIfInBounds_toArray, List.set_cons_zero, List.set_cons_succ]
    refine wpAnyH_take (i := 5) (oi := _) (v := ?v5) rfl (by kernel_rfl) (by kernel_rfl) (by kernel_rfl) (fun _ _ _ h => h) (Or.inl ⟨by rfl, ?hy5⟩) (by assumption) ?rest5
    case hy5 => (intro w hSw; (try dsimp only at hSw); go_simp <;> with_reducible rfl)
    try simp only [Act.put, List.getElem_toArray, List.getElem_cons_succ, List.getElem_cons_zero, List.setIfInBounds_toArray, List.set_cons_zero, List.set_cons_succ]
    refine wpAnyH_take (i := 6) (oi := _) (v := ?v6) rfl (by kernel_rfl) (by kernel_rfl) (by kernel_rfl) (fun _ _ _ h => h) (Or.inl ⟨by rfl, ?hy6⟩) (by assumption) ?rest6
    case hy6 => (intro w hSw; (try dsimp only at hSw); go_simp <;> with_reducible rfl)
    try simp only [Act.put, List.getElem_toArray, List.getElem_cons_succ, List.getElem_cons_zero, List.setIfInBounds_toArray, List.set_cons_zero, List.set_cons_succ]
    refine wpAnyH_take (i := 7) (oi := _) (v := ?v7) rfl (by kernel_rfl) (by kernel_rfl) (by kernel_rfl) (fun _ _ _ h => h) (Or.inl ⟨by rfl, ?hy7⟩) (by assumption) ?rest7
    case hy7 => (intro w hSw; (try dsimp only at hSw); go_simp <;> with_reducible rfl)
    try simp only [Act.put, List.getElem_toArray, List.getElem_cons_succ, List.getElem_cons_zero, List.setIfInBounds_toArray, List.set_cons_zero, List.set_cons_succ]
    refine wpAnyH_take (i := 8) (oi := _) (v := ?v8) rfl (by kernel_rfl) (by kernel_rfl) (by kernel_rfl) (fun _ _ _ h => h) (Or.inl ⟨by rfl, ?hy8⟩) (by assumption) ?rest8
    case hy8 => (intro w hSw; (try dsimp only at hSw); go_simp <;> with_reducible rfl)
    try simp only [Act.put, List.getElem_toArray, List.getElem_cons_succ, List.getElem_cons_zero, List.setIfInBounds_toArray, List.set_cons_zero, List.set_cons_succ]
    refine wpAnyH_take (i := 9) (oi := _) (v := ?v9) rfl (by kernel_rfl) (by kernel_rfl) (by kernel_rfl) (fun _ _ _ h => h) (Or.inl ⟨by rfl, ?hy9⟩) (by assumption) ?rest9
    case hy9 => (intro w hSw; (try dsimp only at hSw); go_simp <;> with_reducible rfl)
    try simp only [Act.put, List.getElem_toArray, List.getElem_cons_succ, List.getElem_cons_zero, List.setIfInBounds_toArray, List.set_cons_zero, List.set_cons_succ]
    refine wpAnyH_take (i := 10) (oi := _) (v := ?v10) rfl (by kernel_rfl) (by kernel_rfl) (by kernel_rfl) (fun _ _ _ h => h) (Or.inl ⟨by rfl, ?hy10⟩) (by assumption) ?rest10
    case hy10 => (intro w hSw; (try dsimp only at hSw); go_simp <;> with_reducible rfl)
    try simp only [Act.put, List.getElem_toArray, List.getElem_cons_succ, List.getElem_cons_zero, List.setIfInBounds_toArray, List.set_cons_zero, List.set_cons_succ]
    refine wpAnyH_take (i := 11) (oi := _) (v := ?v11) rfl (by kernel_rfl) (by kernel_rfl) (by kernel_rfl) (fun _ _ _ h => h) (Or.inl ⟨by rfl, ?hy11⟩) (by assumption) ?rest11
    case hy11 => (intro w hSw; (try dsimp only at hSw); go_simp <;> with_reducible rfl)
    try simp only [Act.put, List.getElem_toArray, List.getElem_cons_succ, List.getElem_cons_zero, List.setIfInBounds_toArray, List.set_cons_zero, List.set_cons_succ]
    refine wpAnyH_take (i := 12) (oi := _) (v := ?v12) rfl (by kernel_rfl) (by kernel_rfl) (by kernel_rfl) (fun _ _ _ h => h) (Or.inl ⟨by rfl, ?hy12⟩) (by assumption) ?rest12
    case hy12 => (intro w hSw; (try dsimp only at hSw); go_simp <;> with_reducible rfl)
    try simp only [Act.put, List.getElem_toArray, List.getElem_cons_succ, List.getElem_cons_zero, List.setIfInBounds_toArray, List.set_cons_zero, List.set_cons_succ]
    refine wpAnyH_take (i := 13) (oi := _) (v := ?v13) rfl (by kernel_rfl) (by kernel_rfl) (by kernel_rfl) (fun _ _ _ h => h) (Or.inl ⟨by rfl, ?hy13⟩) (by assumption) ?rest13
    case hy13 => (intro w hSw; (try dsimp only at hSw); go_simp <;> with_reducible rfl)
    try simp only [Act.put, List.getElem_toArray, List.getElem_cons_succ, List.getElem_cons_zero, List.setIfInBounds_toArray, List.set_cons_zero, List.set_cons_succ]
    refine wpAnyH_take (i := 14) (oi := _) (v := ?v14) rfl (by kernel_rfl) (by kernel_rfl) (by kernel_rfl) (fun _ _ _ h => h) (Or.inl ⟨by rfl, ?hy14⟩) (by assumption) ?rest14
    case hy14 => (intro w hSw; (try dsimp only at hSw); go_simp <;> with_reducible rfl)
    try simp only [Act.put, List.getElem_toArray, List.getElem_cons_succ, List.getElem_cons_zero, List.setIfInBounds_toArray, List.set_cons_zero, List.set_cons_succ]
    refine wpAnyH_take (i := 16) (oi := _) (v := ?v16) rfl (by kernel_rfl) (by kernel_rfl) (by kernel_rfl) (fun _ _ _ h => h) (Or.inl ⟨by rfl, ?hy16⟩) (by assumption) ?rest16
    case hy16 => (intro w hSw; (try dsimp only at hSw); go_simp <;> with_reducible rfl)
    try simp only [Act.put, List.getElem_toArray, List.getElem_cons_succ, List.getElem_cons_zero, List.setIfInBounds_toArray, List.set_cons_zero, List.set_cons_succ]
    refine wpAnyH_take (i := 17) (oi := _) (v := ?v17) rfl (by kernel_rfl) (by kernel_rfl) (by kernel_rfl) (fun _ _ _ h => h) (Or.inl ⟨by rfl, ?hy17⟩) (by assumption) ?rest17
    case hy17 => (intro w hSw; (try dsimp only at hSw); go_simp <;> with_reducible rfl)
    try simp only [Act.put, List.getElem_toArray, List.getElem_cons_succ, List.getElem_cons_zero, List.setIfInBounds_toArray, List.set_cons_zero, List.set_cons_succ]
    refine wpAnyH_take (i := 18) (oi := _) (v := ?v18) rfl (by kernel_rfl) (by kernel_rfl) (by kernel_rfl) (fun _ _ _ h => h) (Or.inl ⟨by rfl, ?hy18⟩) (by assumption) ?rest18
    case hy18 => (intro w hSw; (try dsimp only at hSw); go_simp <;> with_reducible rfl)
    try simp only [Act.put, List.getElem_toArray, List.getElem_cons_succ, List.getElem_cons_zero, List.setIfInBounds_toArray, List.set_cons_zero, List.set_cons_succ]
    refine wpAnyH_take (i := 19) (oi := _) (v := ?v19) rfl (by kernel_rfl) (by kernel_rfl) (by kernel_rfl) (fun _ _ _ h => h) (Or.inl ⟨by rfl, ?hy19⟩) (by assumption) ?rest19
    case hy19 => (intro w hSw; (try dsimp only at hSw); go_simp <;> with_reducible rfl)
    try simp only [Act.put, List.getElem_toArray, List.getElem_cons_succ, List.getElem_cons_zero, List.setIfInBounds_toArray, List.set_cons_zero, List.set_cons_succ]
    refine wpAnyH_ready (rs := [15]) (by kernel_rfl) (by simp) ?_
    refine AllReadyH.cons (o := _) rfl (fun K hK => ?_) AllReadyH.nil
    go_simp
    (go_at_call 61; refine (inter_some c0 d0 c1 d1 x0 y0 x1 y1 _ M5.out M6.out).mono ?_; rintro e v1 ⟨rfl, hq1⟩; rw [e1.out, e2.out, e3.out, e4.out]; have P1 : Below w3.heap.size w3 v1 := by first | exact P0.trans (hq1.mono P0.size) | exact (below_drewN (Below.refl _ _) _).trans (hq1.mono (by simp)))
    refine hK.out _ _ ?_ (fun hHeld => ?_)
    · (refine TOS.out _ ?_; (repeat (first | with_reducible exact Below.refl _ _ | with_reducible exact P1 | with_reducible refine Below.drew ?_ | with_reducible refine below_drewN ?_ _)))
    clear hK K
    try simp only [Act.put, List.getElem_toArray, List.getElem_cons_succ, List.getElem_cons_zero, List.setIfInBounds_toArray, List.set_cons_zero, List.set_cons_succ]
    refine wpAnyH_take (i := 20) (oi := _) (v := ?v20) rfl (by kernel_rfl) (by kernel_rfl) (by kernel_rfl) (fun _ _ _ h => h) (Or.inl ⟨by rfl, ?hy20⟩) (by assumption) ?rest20
    case hy20 => (intro w hSw; (try dsimp only at hSw); go_simp <;> with_reducible rfl)
    try simp only [Act.put, List.getElem_toArray, List.getElem_cons_succ, List.getElem_cons_zero, List.setIfInBounds_toArray, List.set_cons_zero, List.set_cons_succ]
    refine wpAnyH_ready (rs := [21]) (by kernel_rfl) (by simp) ?_
    refine AllReadyH.cons (o := _) rfl (fun K hK => ?_) AllReadyH.nil
    go_simp
    refine hK.out _ _ ?_ (fun hHeld => ?_)
    · (refine TOS.out _ ?_; exact P1.alloc P1.size _)
    clear hK K
    try simp only [Act.put, List.getElem_toArray, List.getElem_cons_succ, List.getElem_cons_zero, List.setIfInBounds_toArray, List.set_cons_zero, List.set_cons_succ]
    refine wpAnyH_take (i := 22) (oi := _) (v := ?v22) rfl (by kernel_rfl) (by kernel_rfl) (by kernel_rfl) (fun _ _ _ h => h) (Or.inl ⟨by rfl, ?hy22⟩) (by assumption) ?rest22
    case hy22 => (intro w hSw; (try dsimp only at hSw); go_simp <;> with_reducible rfl)
    try simp only [Act.put, List.getElem_toArray, List.getElem_cons_succ, List.getElem_cons_zero, List.setIfInBounds_toArray, List.set_cons_zero, List.set_cons_succ]
    refine wpAnyH_take (i := 23) (oi := _) (v := ?v23) rfl (by kernel_rfl) (by kernel_rfl) (by kernel_rfl) (fun _ _ _ h => h) (Or.inl ⟨by rfl, ?hy23⟩) (by assumption) ?rest23
    case hy23 => (intro w hSw; (try dsimp only at hSw); go_simp <;> with_reducible rfl)
    try simp only [Act.put, List.getElem_toArray, List.getElem_cons_succ, List.getElem_cons_zero, List.setIfInBounds_toArray, List.set_cons_zero, List.set_cons_succ]
    refine wpAnyH_done (by kernel_rfl) ?_ _
    go_wp2
    go_ret
    exact ⟨v1.heap.size, by simp, Nat.le_trans hz3 P1.size, heap_alloc_new _ _, (hB3.trans (P1.mono hz3)).alloc (Nat.le_trans hz3 P1.size) _⟩

theorem own_cap {w : World} {base n c : Nat} {A : Option Addr} {xs : List Value} (h : w.ownsRow base 5 1 (.slice A n c) n xs) : c ≤ 9223372036854775807 := by
  rcases h.2 with ⟨hv, _⟩ | ⟨g, cap, cur, hv, _, _, _, hcm, _⟩
  · injection hv; omega
  · injection hv with _ _ e; subst e; unfold maxLen at hcm; omega
theorem Reads.drop {w : World} {b o : Nat} {zs : List Int} (h : Reads w (some ⟨b, o, none⟩) zs) (k : Nat) : Reads w (some ⟨b, o + k, none⟩) (zs.drop k) := by
  refine ⟨fun e => (by cases e), fun ad e j hj => ?_⟩
  injection e with e
  subst e
  rw [List.length_drop] at hj
  have h0 := h.cell (j := k + j) (by omega)
  have e1 : (zs.drop k).getD j 0 = zs.getD (k + j) 0 := by simp [List.getD_eq_getElem?_getD, List.getElem?_drop]
  rw [e1]
  rcases Nat.eq_zero_or_pos j with rfl | hp
  · simpa [Addr.add] using h0
  · have e2 : (⟨b, o + k, none⟩ : Addr).add j = ⟨b, o + (k + j), none⟩ := by unfold Addr.add; rw [if_neg (by omega)]; simp [Nat.add_assoc]
    rw [e2]
    exact h0
theorem reads_nil (w : World) : Reads w none [] := ⟨fun _ => rfl, fun _ e => (by cases e)⟩
theorem assert_any (a : Addr) (w : World) : (Instr.typeAssert (.iface 69 (.pointer (some a))) 90 69 true).run Try.prog w = .ok (.tuple #[.pointer (some a), .bool true]) w := by kernel_rfl
/-- What impl.PalettedSub hands back. -/
def PlateData2 (zs : List Int) (ps : List (Int × Int × Int × Int)) (s x0 y0 x1 y1 : Int) (w : World) (e : Ending) (w' : World) : Prop :=
  ∃ (A : Option Addr) (c : Nat) (B : Option Addr) (k : Nat), e = .returned (.tuple #[.agg #[.int .i64 x0, .int .i64 y0, .int .i64 x1, .int .i64 y1, .int .i64 s, .slice A zs.length c, .slice B ps.length k], .bool true]) ∧ w'.ownsRow w.heap.size 5 1 (.slice A zs.length c) zs.length (zs.map (Value.int .u8)) ∧ POwn w' w.heap.size B k ps ∧ Below w.heap.size w w'

set_option maxRecDepth 100000 in
set_option maxHeartbeats 2000000 in
theorem implSub_none (x0 y0 x1 y1 s : Int) (A : Option Addr) (c : Nat) (zs : List Int) (B : Option Addr) (k : Nat) (ps : List (Int × Int × Int × Int)) (a0 b0 a1 b1 : Int) (w : World) (hr : Hid (Reads w A zs)) (hl : Small zs) (hn : Hid (A = none → c = 0)) (pr : Hid (PReads w B ps)) (pl : (ps.length : Int) ≤ 2097152) (hE : Hid (min x1 a1 ≤ max x0 a0 ∨ min y1 b1 ≤ max y0 b0)) :
    Calls Try.prog 34 #[.agg #[.int .i64 x0, .int .i64 y0, .int .i64 x1, .int .i64 y1, .int .i64 s, .slice A zs.length c, .slice B ps.length k], .agg #[.int .i64 a0, .int .i64 b0, .int .i64 a1, .int .i64 b1]] w (PlateData2 [] ps 0 0 0 0 0 w) := by
  have hB : Below w.heap.size w (((w.alloc (.cells #[.int .i64 x0, .int .i64 y0, .int .i64 x1, .int .i64 y1, .int .i64 s, .slice A zs.length c, .slice B ps.length k] 27)).alloc (.cells #[.int .i64 a0, .int .i64 b0, .int .i64 a1, .int .i64 b1] 23)).alloc (.cells #[.int .i64 0, .int .i64 0, .int .i64 0, .int .i64 0, .int .i64 0, .slice none 0 0, .slice none 0 0] 27)) := (((Below.refl _ _).alloc (Nat.le_refl _) _).alloc (by simp) _).alloc (by simp; omega) _
  have D0 : (((w.alloc (.cells #[.int .i64 x0, .int .i64 y0, .int .i64 x1, .int .i64 y1, .int .i64 s, .slice A zs.length c, .slice B ps.length k] 27)).alloc (.cells #[.int .i64 a0, .int .i64 b0, .int .i64 a1, .int .i64 b1] 23)).alloc (.cells #[.int .i64 0, .int .i64 0, .int .i64 0, .int .i64 0, .int .i64 0, .slice none 0 0, .slice none 0 0] 27)).cell? ⟨w.heap.size, 0, none⟩ = some (.int .i64 x0) := by first | (simp; done) | go_simp
  have D1 : (((w.alloc (.cells #[.int .i64 x0, .int .i64 y0, .int .i64 x1, .int .i64 y1, .int .i64 s, .slice A zs.length c, .slice B ps.length k] 27)).alloc (.cells #[.int .i64 a0, .int .i64 b0, .int .i64 a1, .int .i64 b1] 23)).alloc (.cells #[.int .i64 0, .int .i64 0, .int .i64 0, .int .i64 0, .int .i64 0, .slice none 0 0, .slice none 0 0] 27)).cell? ⟨w.heap.size, 1, none⟩ = some (.int .i64 y0) := by first | (simp; done) | go_simp
  have D2 : (((w.alloc (.cells #[.int .i64 x0, .int .i64 y0, .int .i64 x1, .int .i64 y1, .int .i64 s, .slice A zs.length c, .slice B ps.length k] 27)).alloc (.cells #[.int .i64 a0, .int .i64 b0, .int .i64 a1, .int .i64 b1] 23)).alloc (.cells #[.int .i64 0, .int .i64 0, .int .i64 0, .int .i64 0, .int .i64 0, .slice none 0 0, .slice none 0 0] 27)).cell? ⟨w.heap.size, 2, none⟩ = some (.int .i64 x1) := by first | (simp; done) | go_simp
  have D3 : (((w.alloc (.cells #[.int .i64 x0, .int .i64 y0, .int .i64 x1, .int .i64 y1, .int .i64 s, .slice A zs.length c, .slice B ps.length k] 27)).alloc (.cells #[.int .i64 a0, .int .i64 b0, .int .i64 a1, .int .i64 b1] 23)).alloc (.cells #[.int .i64 0, .int .i64 0, .int .i64 0, .int .i64 0, .int .i64 0, .slice none 0 0, .slice none 0 0] 27)).cell? ⟨w.heap.size, 3, none⟩ = some (.int .i64 y1) := by first | (simp; done) | go_simp
  have D4 : (((w.alloc (.cells #[.int .i64 x0, .int .i64 y0, .int .i64 x1, .int .i64 y1, .int .i64 s, .slice A zs.length c, .slice B ps.length k] 27)).alloc (.cells #[.int .i64 a0, .int .i64 b0, .int .i64 a1, .int .i64 b1] 23)).alloc (.cells #[.int .i64 0, .int .i64 0, .int .i64 0, .int .i64 0, .int .i64 0, .slice none 0 0, .slice none 0 0] 27)).cell? ⟨w.heap.size, 4, none⟩ = some (.int .i64 s) := by first | (simp; done) | go_simp
  have D5 : (((w.alloc (.cells #[.int .i64 x0, .int .i64 y0, .int .i64 x1, .int .i64 y1, .int .i64 s, .slice A zs.length c, .slice B ps.length k] 27)).alloc (.cells #[.int .i64 a0, .int .i64 b0, .int .i64 a1, .int .i64 b1] 23)).alloc (.cells #[.int .i64 0, .int .i64 0, .int .i64 0, .int .i64 0, .int .i64 0, .slice none 0 0, .slice none 0 0] 27)).cell? ⟨w.heap.size, 5, none⟩ = some (.slice A zs.length c) := by first | (simp; done) | go_simp
  have D6 : (((w.alloc (.cells #[.int .i64 x0, .int .i64 y0, .int .i64 x1, .int .i64 y1, .int .i64 s, .slice A zs.length c, .slice B ps.length k] 27)).alloc (.cells #[.int .i64 a0, .int .i64 b0, .int .i64 a1, .int .i64 b1] 23)).alloc (.cells #[.int .i64 0, .int .i64 0, .int .i64 0, .int .i64 0, .int .i64 0, .slice none 0 0, .slice none 0 0] 27)).cell? ⟨w.heap.size, 6, none⟩ = some (.slice B ps.length k) := by first | (simp; done) | go_simp
  have R0 : (((w.alloc (.cells #[.int .i64 x0, .int .i64 y0, .int .i64 x1, .int .i64 y1, .int .i64 s, .slice A zs.length c, .slice B ps.length k] 27)).alloc (.cells #[.int .i64 a0, .int .i64 b0, .int .i64 a1, .int .i64 b1] 23)).alloc (.cells #[.int .i64 0, .int .i64 0, .int .i64 0, .int .i64 0, .int .i64 0, .slice none 0 0, .slice none 0 0] 27)).cell? ⟨w.heap.size + 1, 0, none⟩ = some (.int .i64 a0) := by first | (simp; done) | go_simp
  have R1 : (((w.alloc (.cells #[.int .i64 x0, .int .i64 y0, .int .i64 x1, .int .i64 y1, .int .i64 s, .slice A zs.length c, .slice B ps.length k] 27)).alloc (.cells #[.int .i64 a0, .int .i64 b0, .int .i64 a1, .int .i64 b1] 23)).alloc (.cells #[.int .i64 0, .int .i64 0, .int .i64 0, .int .i64 0, .int .i64 0, .slice none 0 0, .slice none 0 0] 27)).cell? ⟨w.heap.size + 1, 1, none⟩ = some (.int .i64 b0) := by first | (simp; done) | go_simp
  have R2 : (((w.alloc (.cells #[.int .i64 x0, .int .i64 y0, .int .i64 x1, .int .i64 y1, .int .i64 s, .slice A zs.length c, .slice B ps.length k] 27)).alloc (.cells #[.int .i64 a0, .int .i64 b0, .int .i64 a1, .int .i64 b1] 23)).alloc (.cells #[.int .i64 0, .int .i64 0, .int .i64 0, .int .i64 0, .int .i64 0, .slice none 0 0, .slice none 0 0] 27)).cell? ⟨w.heap.size + 1, 2, none⟩ = some (.int .i64 a1) := by first | (simp; done) | go_simp
  have R3 : (((w.alloc (.cells #[.int .i64 x0, .int .i64 y0, .int .i64 x1, .int .i64 y1, .int .i64 s, .slice A zs.length c, .slice B ps.length k] 27)).alloc (.cells #[.int .i64 a0, .int .i64 b0, .int .i64 a1, .int .i64 b1] 23)).alloc (.cells #[.int .i64 0, .int .i64 0, .int .i64 0, .int .i64 0, .int .i64 0, .slice none 0 0, .slice none 0 0] 27)).cell? ⟨w.heap.size + 1, 3, none⟩ = some (.int .i64 b1) := by first | (simp; done) | go_simp
  have HZ : Hid ((((w.alloc (.cells #[.int .i64 x0, .int .i64 y0, .int .i64 x1, .int .i64 y1, .int .i64 s, .slice A zs.length c, .slice B ps.length k] 27)).alloc (.cells #[.int .i64 a0, .int .i64 b0, .int .i64 a1, .int .i64 b1] 23)).alloc (.cells #[.int .i64 0, .int .i64 0, .int .i64 0, .int .i64 0, .int .i64 0, .slice none 0 0, .slice none 0 0] 27)).heap[w.heap.size + 2]? = some (.cells #[.int .i64 0, .int .i64 0, .int .i64 0, .int .i64 0, .int .i64 0, .slice none 0 0, .slice none 0 0] 27 (0, 0))) := by
    have h := heap_alloc_new ((w.alloc (.cells #[.int .i64 x0, .int .i64 y0, .int .i64 x1, .int .i64 y1, .int .i64 s, .slice A zs.length c, .slice B ps.length k] 27)).alloc (.cells #[.int .i64 a0, .int .i64 b0, .int .i64 a1, .int .i64 b1] 23)) (.cells #[.int .i64 0, .int .i64 0, .int .i64 0, .int .i64 0, .int .i64 0, .slice none 0 0, .slice none 0 0] 27)
    rw [show ((w.alloc (.cells #[.int .i64 x0, .int .i64 y0, .int .i64 x1, .int .i64 y1, .int .i64 s, .slice A zs.length c, .slice B ps.length k] 27)).alloc (.cells #[.int .i64 a0, .int .i64 b0, .int .i64 a1, .int .i64 b1] 23)).heap.size = w.heap.size + 2 by simp] at h
    exact h
  have hbo : w.heap.size ≤ w.heap.size + 2 := by omega
  have hta := assert_any
  have HR := Lib.hid (hr.out.below hB)
  have HP := Lib.hid (pr.out.below hB)
  go_enter Try.func34, Try.ntmps34
  go_wp2_with fail
  generalize ((w.alloc (.cells #[.int .i64 x0, .int .i64 y0, .int .i64 x1, .int .i64 y1, .int .i64 s, .slice A zs.length c, .slice B ps.length k] 27)).alloc (.cells #[.int .i64 a0, .int .i64 b0, .int .i64 a1, .int .i64 b1] 23)).alloc (.cells #[.int .i64 0, .int .i64 0, .int .i64 0, .int .i64 0, .int .i64 0, .slice none 0 0, .slice none 0 0] 27) = W0 at *
  generalize w.heap.size + 2 = bo at *
  generalize w.heap.size + 1 = br at *
  have P0 : Below W0.heap.size W0 W0.drew := (Below.refl _ _).drew
  have toS : ∀ W' : World, Below W0.heap.size W0 W' → (W'.cell? ⟨w.heap.size, 0, none⟩ = some (.int .i64 x0) ∧ W'.cell? ⟨w.heap.size, 1, none⟩ = some (.int .i64 y0) ∧ W'.cell? ⟨w.heap.size, 2, none⟩ = some (.int .i64 x1) ∧ W'.cell? ⟨w.heap.size, 3, none⟩ = some (.int .i64 y1) ∧ W'.cell? ⟨w.heap.size, 4, none⟩ = some (.int .i64 s) ∧ W'.cell? ⟨w.heap.size, 5, none⟩ = some (.slice A zs.length c) ∧ W'.cell? ⟨w.heap.size, 6, none⟩ = some (.slice B ps.length k) ∧ W'.cell? ⟨br, 0, none⟩ = some (.int .i64 a0) ∧ W'.cell? ⟨br, 1, none⟩ = some (.int .i64 b0) ∧ W'.cell? ⟨br, 2, none⟩ = some (.int .i64 a1) ∧ W'.cell? ⟨br, 3, none⟩ = some (.int .i64 b1)) := fun W' h => ⟨cell_kept D0 h, cell_kept D1 h, cell_kept D2 h, cell_kept D3 h, cell_kept D4 h, cell_kept D5 h, cell_kept D6 h, cell_kept R0 h, cell_kept R1 h, cell_kept R2 h, cell_kept R3 h⟩
  have TOS := Lib.hid toS
  clear toS
  have hzN := hB.size
  refine wp_region_held_drew (S := fun w' => w'.cell? ⟨w.heap.size, 0, none⟩ = some (.int .i64 x0) ∧ w'.cell? ⟨w.heap.size, 1, none⟩ = some (.int .i64 y0) ∧ w'.cell? ⟨w.heap.size, 2, none⟩ = some (.int .i64 x1) ∧ w'.cell? ⟨w.heap.size, 3, none⟩ = some (.int .i64 y1) ∧ w'.cell? ⟨w.heap.size, 4, none⟩ = some (.int .i64 s) ∧ w'.cell? ⟨w.heap.size, 5, none⟩ = some (.slice A zs.length c) ∧ w'.cell? ⟨w.heap.size, 6, none⟩ = some (.slice B ps.length k) ∧ w'.cell? ⟨br, 0, none⟩ = some (.int .i64 a0) ∧ w'.cell? ⟨br, 1, none⟩ = some (.int .i64 b0) ∧ w'.cell? ⟨br, 2, none⟩ = some (.int .i64 a1) ∧ w'.cell? ⟨br, 3, none⟩ = some (.int .i64 b1)) (by kernel_rfl) ?_ (fun hHeld => ?_)
  · (first | (refine TOS.out _ ?_; first | with_reducible exact P3 | with_reducible exact P2 | with_reducible exact P1 | with_reducible exact P0))
  refine wpAnyH_take (i := 0) (oi := _) (v := ?vr2_0) rfl (by kernel_rfl) (by kernel_rfl) (by kernel_rfl) (fun _ _ _ h => h) (Or.inl ⟨by rfl, ?hyr2_0⟩) (by assumption) ?restr2_0
  case hyr2_0 => (intro w hSw; (try dsimp only at hSw); go_simp <;> with_reducible rfl)
  try simp only [Act.put, List.getElem_toArray, List.getElem_cons_succ, List.getElem_cons_zero, List.setIfInBounds_toArray, List.set_cons_zero, List.set_cons_succ]
  refine wpAnyH_take (i := 2) (oi := _) (v := ?vr2_2) rfl (by kernel_rfl) (by kernel_rfl) (by kernel_rfl) (fun _ _ _ h => h) (Or.inl ⟨by rfl, ?hyr2_2⟩) (by assumption) ?restr2_2
  case hyr2_2 => (intro w hSw; (try dsimp only at hSw); go_simp <;> with_reducible rfl)
  try simp only [Act.put, List.getElem_toArray, List.getElem_cons_succ, List.getElem_cons_zero, List.setIfInBounds_toArray, List.set_cons_zero, List.set_cons_succ]
  refine wpAnyH_ready (rs := [1]) (by kernel_rfl) (by simp) ?_
  refine AllReadyH.cons (o := _) rfl (fun K hK => ?_) AllReadyH.nil
  go_simp
  (go_at_call 42; refine (to_any x0 y0 x1 y1 s A c zs B k ps _ (show Hid _ from HR.out.below P0) hl hn (show Hid _ from HP.out.below P0) pl).mono ?_; rintro e v1' ⟨g, A', c', B', k', rfl, hgb, hg, ho, hi, hq1⟩; have HG := Lib.hid hg; have HO := Lib.hid ho; have HI := Lib.hid hi; clear hg ho hi; have P1 : Below W0.heap.size W0 v1' := P0.trans (hq1.mono P0.size))
  refine hK.out _ _ ?_ (fun hHeld => ?_)
  · (first | (refine TOS.out _ ?_; first | with_reducible exact P3 | with_reducible exact P2 | with_reducible exact P1 | with_reducible exact P0))
  clear hK K
  try simp only [Act.put, List.getElem_toArray, List.getElem_cons_succ, List.getElem_cons_zero, List.setIfInBounds_toArray, List.set_cons_zero, List.set_cons_succ]
  refine wpAnyH_ready (rs := [3]) (by kernel_rfl) (by simp) ?_
  refine AllReadyH.cons (o := _) rfl (fun K hK => ?_) AllReadyH.nil
  go_simp
  (go_at_call 51; refine (rectangle_any a0 b0 a1 b1 _).mono ?_; rintro e v2' ⟨rfl, hq2⟩; replace HG := Lib.hid (heap_kept HG.out hq2); replace HO := Lib.hid (ownsRow_below HO.out hq2); replace HI := Lib.hid (ownsRow_below HI.out hq2); have P2 : Below W0.heap.size W0 v2' := P1.trans (hq2.mono P1.size))
  refine hK.out _ _ ?_ (fun hHeld => ?_)
  · (first | (refine TOS.out _ ?_; first | with_reducible exact P3 | with_reducible exact P2 | with_reducible exact P1 | with_reducible exact P0))
  clear hK K
  try simp only [Act.put, List.getElem_toArray, List.getElem_cons_succ, List.getElem_cons_zero, List.setIfInBounds_toArray, List.set_cons_zero, List.set_cons_succ]
  refine wpAnyH_ready (rs := [4]) (by kernel_rfl) (by simp) ?_
  refine AllReadyH.cons (o := _) rfl (fun K hK => ?_) AllReadyH.nil
  go_simp
  (go_at_call 54; refine (subImage_none g x0 y0 x1 y1 s A' c' zs B' k' ps a0 b0 a1 b1 _ HG.out hE).mono ?_; rintro e v3' ⟨g3, rfl, hg3b, hg3, hq3⟩; have HG3 := Lib.hid hg3; replace HO := Lib.hid (ownsRow_below HO.out hq3); replace HI := Lib.hid (ownsRow_below HI.out hq3); clear hg3; have P3 : Below W0.heap.size W0 v3' := P2.trans (hq3.mono P2.size))
  refine hK.out _ _ ?_ (fun hHeld => ?_)
  · (first | (refine TOS.out _ ?_; first | with_reducible exact P3 | with_reducible exact P2 | with_reducible exact P1 | with_reducible exact P0))
  clear hK K
  try simp only [Act.put, List.getElem_toArray, List.getElem_cons_succ, List.getElem_cons_zero, List.setIfInBounds_toArray, List.set_cons_zero, List.set_cons_succ]
  refine wpAnyH_take (i := 5) (oi := _) (v := ?vr2_5) rfl (by kernel_rfl) (by kernel_rfl) (by kernel_rfl) (fun _ _ _ h => h) (Or.inl ⟨by rfl, ?hyr2_5⟩) (by assumption) ?restr2_5
  case hyr2_5 => (intro w hSw; (try dsimp only at hSw); go_simp <;> with_reducible rfl)
  try simp only [Act.put, List.getElem_toArray, List.getElem_cons_succ, List.getElem_cons_zero, List.setIfInBounds_toArray, List.set_cons_zero, List.set_cons_succ]
  refine wpAnyH_take (i := 6) (oi := _) (v := ?vr2_6) rfl (by kernel_rfl) (by kernel_rfl) (by kernel_rfl) (fun _ _ _ h => h) (Or.inl ⟨by rfl, ?hyr2_6⟩) (by assumption) ?restr2_6
  case hyr2_6 => (intro w hSw; (try dsimp only at hSw); go_simp <;> with_reducible rfl)
  try simp only [Act.put, List.getElem_toArray, List.getElem_cons_succ, List.getElem_cons_zero, List.setIfInBounds_toArray, List.set_cons_zero, List.set_cons_succ]
  refine wpAnyH_take (i := 7) (oi := _) (v := ?vr2_7) rfl (by kernel_rfl) (by kernel_rfl) (by kernel_rfl) (fun _ _ _ h => h) (Or.inl ⟨by rfl, ?hyr2_7⟩) (by assumption) ?restr2_7
  case hyr2_7 => (intro w hSw; (try dsimp only at hSw); go_simp <;> with_reducible rfl)
  try simp only [Act.put, List.getElem_toArray, List.getElem_cons_succ, List.getElem_cons_zero, List.setIfInBounds_toArray, List.set_cons_zero, List.set_cons_succ]
  refine wpAnyH_take (i := 8) (oi := _) (v := ?vr2_8) rfl (by kernel_rfl) (by kernel_rfl) (by kernel_rfl) (fun _ _ _ h => h) (Or.inl ⟨by rfl, ?hyr2_8⟩) (by assumption) ?restr2_8
  case hyr2_8 => (intro w hSw; (try dsimp only at hSw); go_simp <;> with_reducible rfl)
  try simp only [Act.put, List.getElem_toArray, List.getElem_cons_succ, List.getElem_cons_zero, List.setIfInBounds_toArray, List.set_cons_zero, List.set_cons_succ]
  refine wpAnyH_take (i := 9) (oi := _) (v := ?vr2_9) rfl (by kernel_rfl) (by kernel_rfl) (by kernel_rfl) (fun _ _ _ h => h) (Or.inl ⟨by rfl, ?hyr2_9⟩) (by assumption) ?restr2_9
  case hyr2_9 => (intro w hSw; (try dsimp only at hSw); go_simp <;> with_reducible rfl)
  try simp only [Act.put, List.getElem_toArray, List.getElem_cons_succ, List.getElem_cons_zero, List.setIfInBounds_toArray, List.set_cons_zero, List.set_cons_succ]
  refine wpAnyH_take (i := 10) (oi := _) (v := ?vr2_10) rfl (by kernel_rfl) (by kernel_rfl) (by kernel_rfl) (fun _ _ _ h => h) (Or.inl ⟨by rfl, ?hyr2_10⟩) (by assumption) ?restr2_10
  case hyr2_10 => (intro w hSw; (try dsimp only at hSw); go_simp <;> with_reducible rfl)
  try simp only [Act.put, List.getElem_toArray, List.getElem_cons_succ, List.getElem_cons_zero, List.setIfInBounds_toArray, List.set_cons_zero, List.set_cons_succ]
  refine wpAnyH_done (by kernel_rfl) ?_ _
  have Z3 := Lib.hid (heap_kept HZ.out P3)
  have hB3 : Below w.heap.size w v3' := hB.trans (P3.mono hzN)
  have HIr := Lib.hid (IReads.of_own HI.out)
  go_wp2_with fail
  refine (of_any g3 0 0 0 0 0 none 0 [] B' k' ps _ HG3.out (show Hid (Reads _ none []) from reads_nil _) (show Small [] from Nat.zero_le _) (show Hid _ from fun _ => rfl) HIr pl).mono ?_
  rintro e u4 ⟨E1, f1, E2, f2, rfl, hw1, hw2, hv4⟩
  have hB4 : Below w.heap.size w u4 := hB3.trans (hv4.mono hB3.size)
  have Z4 := Lib.hid (heap_kept Z3.out hv4)
  have hz4 : w.heap.size ≤ v3'.heap.size := hB3.size
  have zc0 := row_cell (i := 0) (v := .int .i64 0) Z4.out rfl
  have zc1 := row_cell (i := 1) (v := .int .i64 0) Z4.out rfl
  have zc2 := row_cell (i := 2) (v := .int .i64 0) Z4.out rfl
  have zc3 := row_cell (i := 3) (v := .int .i64 0) Z4.out rfl
  have zc4 := row_cell (i := 4) (v := .int .i64 0) Z4.out rfl
  have zc5 := row_cell (i := 5) (v := .slice none 0 0) Z4.out rfl
  have zc6 := row_cell (i := 6) (v := .slice none 0 0) Z4.out rfl
  have zf0 := frozen_of_row _ _ 0 _ _ Z4.out
  have zf1 := frozen_of_row _ _ 1 _ _ Z4.out
  have zf2 := frozen_of_row _ _ 2 _ _ Z4.out
  have zf3 := frozen_of_row _ _ 3 _ _ Z4.out
  have zf4 := frozen_of_row _ _ 4 _ _ Z4.out
  have zf5 := frozen_of_row _ _ 5 _ _ Z4.out
  have zf6 := frozen_of_row _ _ 6 _ _ Z4.out
  go_wp2_with fail
  clear zc0 zf0 zc1 zf1 zc2 zf2 zc3 zf3 zc4 zf4 zc5 zf5 zc6 zf6 TOS hHeld P0 P1 P2 P3
  have HF : Hid ((((((((u4.setCell ⟨bo, 0, none⟩ (.int .i64 0)).setCell ⟨bo, 1, none⟩ (.int .i64 0)).setCell ⟨bo, 2, none⟩ (.int .i64 0)).setCell ⟨bo, 3, none⟩ (.int .i64 0)).setCell ⟨bo, 4, none⟩ (.int .i64 0)).setCell ⟨bo, 5, none⟩ (.slice E1 ([] : List Int).length f1)).setCell ⟨bo, 6, none⟩ (.slice E2 ps.length f2)).heap[bo]? = some (.cells #[.int .i64 0, .int .i64 0, .int .i64 0, .int .i64 0, .int .i64 0, .slice E1 ([] : List Int).length f1, .slice E2 ps.length f2] 27 (0, 0))) := sets7 Z4.out
  have HBx : Below w.heap.size w (((((((u4.setCell ⟨bo, 0, none⟩ (.int .i64 0)).setCell ⟨bo, 1, none⟩ (.int .i64 0)).setCell ⟨bo, 2, none⟩ (.int .i64 0)).setCell ⟨bo, 3, none⟩ (.int .i64 0)).setCell ⟨bo, 4, none⟩ (.int .i64 0)).setCell ⟨bo, 5, none⟩ (.slice E1 ([] : List Int).length f1)).setCell ⟨bo, 6, none⟩ (.slice E2 ps.length f2)) := sets7_below hB4 hbo
  have HW1 : Hid ((((((((u4.setCell ⟨bo, 0, none⟩ (.int .i64 0)).setCell ⟨bo, 1, none⟩ (.int .i64 0)).setCell ⟨bo, 2, none⟩ (.int .i64 0)).setCell ⟨bo, 3, none⟩ (.int .i64 0)).setCell ⟨bo, 4, none⟩ (.int .i64 0)).setCell ⟨bo, 5, none⟩ (.slice E1 ([] : List Int).length f1)).setCell ⟨bo, 6, none⟩ (.slice E2 ps.length f2)).ownsRow w.heap.size 5 1 (.slice E1 ([] : List Int).length f1) ([] : List Int).length (([] : List Int).map (Value.int .u8))) := sets7_own (ownsRow_base hw1 hz4) Z4.out (by decide)
  have HW2 : Hid (POwn (((((((u4.setCell ⟨bo, 0, none⟩ (.int .i64 0)).setCell ⟨bo, 1, none⟩ (.int .i64 0)).setCell ⟨bo, 2, none⟩ (.int .i64 0)).setCell ⟨bo, 3, none⟩ (.int .i64 0)).setCell ⟨bo, 4, none⟩ (.int .i64 0)).setCell ⟨bo, 5, none⟩ (.slice E1 ([] : List Int).length f1)).setCell ⟨bo, 6, none⟩ (.slice E2 ps.length f2)) w.heap.size E2 f2 ps) := sets7_own (ownsRow_base hw2 hz4) Z4.out (by decide)
  generalize (((((((u4.setCell ⟨bo, 0, none⟩ (.int .i64 0)).setCell ⟨bo, 1, none⟩ (.int .i64 0)).setCell ⟨bo, 2, none⟩ (.int .i64 0)).setCell ⟨bo, 3, none⟩ (.int .i64 0)).setCell ⟨bo, 4, none⟩ (.int .i64 0)).setCell ⟨bo, 5, none⟩ (.slice E1 ([] : List Int).length f1)).setCell ⟨bo, 6, none⟩ (.slice E2 ps.length f2)) = wz at *
  clear hw1 hw2
  have r0 := row_cell (i := 0) (v := .int .i64 0) HF.out rfl
  have r1 := row_cell (i := 1) (v := .int .i64 0) HF.out rfl
  have r2 := row_cell (i := 2) (v := .int .i64 0) HF.out rfl
  have r3 := row_cell (i := 3) (v := .int .i64 0) HF.out rfl
  have r4 := row_cell (i := 4) (v := .int .i64 0) HF.out rfl
  have r5 := row_cell (i := 5) (v := .slice E1 ([] : List Int).length f1) HF.out rfl
  have r6 := row_cell (i := 6) (v := .slice E2 ps.length f2) HF.out rfl
  go_wp2
  exact bodyPost_ret (v := .tuple #[.agg #[.int .i64 0, .int .i64 0, .int .i64 0, .int .i64 0, .int .i64 0, .slice E1 ([] : List Int).length f1, .slice E2 ps.length f2], .bool true]) (by simp [results, Try.results34, go_sem, r0, r1, r2, r3, r4, r5, r6]) rfl ⟨E1, f1, E2, f2, rfl, HW1.out, HW2.out, HBx⟩

set_option maxRecDepth 100000 in
set_option maxHeartbeats 2000000 in
theorem implSub_some (x0 y0 x1 y1 s : Int) (A : Option Addr) (c : Nat) (zs : List Int) (B : Option Addr) (k : Nat) (ps : List (Int × Int × Int × Int)) (a0 b0 a1 b1 : Int) (w : World) (hr : Hid (Reads w A zs)) (hl : Small zs) (hn : Hid (A = none → c = 0)) (pr : Hid (PReads w B ps)) (pl : (ps.length : Int) ≤ 2097152) (c0 d0 c1 d1 : Int) (m : Nat) (m1 : Hid (max x0 a0 = c0)) (m2 : Hid (max y0 b0 = d0)) (m3 : Hid (min x1 a1 = c1)) (m4 : Hid (min y1 b1 = d1)) (n5 : c0 < c1) (n6 : d0 < d1) (HK : Hid ((d0 - y0) * s + (c0 - x0) = m)) (hk : Hid (m < zs.length)) (q1 : -4398046511104 ≤ d0 - y0) (q2 : d0 - y0 ≤ 4398046511104) (q3 : -4398046511104 ≤ c0 - x0) (q4 : c0 - x0 ≤ 4398046511104) (p1 : -2305843009213693952 ≤ (d0 - y0) * s) (p2 : (d0 - y0) * s ≤ 2305843009213693952) (zm : List Int) (HY : Hid (zs.drop m = zm)) (HL : Hid (zm.length = zs.length - m)) (hlm : Small zm) :
    Calls Try.prog 34 #[.agg #[.int .i64 x0, .int .i64 y0, .int .i64 x1, .int .i64 y1, .int .i64 s, .slice A zs.length c, .slice B ps.length k], .agg #[.int .i64 a0, .int .i64 b0, .int .i64 a1, .int .i64 b1]] w (PlateData2 zm ps s c0 d0 c1 d1 w) := by
  have hB : Below w.heap.size w (((w.alloc (.cells #[.int .i64 x0, .int .i64 y0, .int .i64 x1, .int .i64 y1, .int .i64 s, .slice A zs.length c, .slice B ps.length k] 27)).alloc (.cells #[.int .i64 a0, .int .i64 b0, .int .i64 a1, .int .i64 b1] 23)).alloc (.cells #[.int .i64 0, .int .i64 0, .int .i64 0, .int .i64 0, .int .i64 0, .slice none 0 0, .slice none 0 0] 27)) := (((Below.refl _ _).alloc (Nat.le_refl _) _).alloc (by simp) _).alloc (by simp; omega) _
  have D0 : (((w.alloc (.cells #[.int .i64 x0, .int .i64 y0, .int .i64 x1, .int .i64 y1, .int .i64 s, .slice A zs.length c, .slice B ps.length k] 27)).alloc (.cells #[.int .i64 a0, .int .i64 b0, .int .i64 a1, .int .i64 b1] 23)).alloc (.cells #[.int .i64 0, .int .i64 0, .int .i64 0, .int .i64 0, .int .i64 0, .slice none 0 0, .slice none 0 0] 27)).cell? ⟨w.heap.size, 0, none⟩ = some (.int .i64 x0) := by first | (simp; done) | go_simp
  have D1 : (((w.alloc (.cells #[.int .i64 x0, .int .i64 y0, .int .i64 x1, .int .i64 y1, .int .i64 s, .slice A zs.length c, .slice B ps.length k] 27)).alloc (.cells #[.int .i64 a0, .int .i64 b0, .int .i64 a1, .int .i64 b1] 23)).alloc (.cells #[.int .i64 0, .int .i64 0, .int .i64 0, .int .i64 0, .int .i64 0, .slice none 0 0, .slice none 0 0] 27)).cell? ⟨w.heap.size, 1, none⟩ = some (.int .i64 y0) := by first | (simp; done) | go_simp
  have D2 : (((w.alloc (.cells #[.int .i64 x0, .int .i64 y0, .int .i64 x1, .int .i64 y1, .int .i64 s, .slice A zs.length c, .slice B ps.length k] 27)).alloc (.cells #[.int .i64 a0, .int .i64 b0, .int .i64 a1, .int .i64 b1] 23)).alloc (.cells #[.int .i64 0, .int .i64 0, .int .i64 0, .int .i64 0, .int .i64 0, .slice none 0 0, .slice none 0 0] 27)).cell? ⟨w.heap.size, 2, none⟩ = some (.int .i64 x1) := by first | (simp; done) | go_simp
  have D3 : (((w.alloc (.cells #[.int .i64 x0, .int .i64 y0, .int .i64 x1, .int .i64 y1, .int .i64 s, .slice A zs.length c, .slice B ps.length k] 27)).alloc (.cells #[.int .i64 a0, .int .i64 b0, .int .i64 a1, .int .i64 b1] 23)).alloc (.cells #[.int .i64 0, .int .i64 0, .int .i64 0, .int .i64 0, .int .i64 0, .slice none 0 0, .slice none 0 0] 27)).cell? ⟨w.heap.size, 3, none⟩ = some (.int .i64 y1) := by first | (simp; done) | go_simp
  have D4 : (((w.alloc (.cells #[.int .i64 x0, .int .i64 y0, .int .i64 x1, .int .i64 y1, .int .i64 s, .slice A zs.length c, .slice B ps.length k] 27)).alloc (.cells #[.int .i64 a0, .int .i64 b0, .int .i64 a1, .int .i64 b1] 23)).alloc (.cells #[.int .i64 0, .int .i64 0, .int .i64 0, .int .i64 0, .int .i64 0, .slice none 0 0, .slice none 0 0] 27)).cell? ⟨w.heap.size, 4, none⟩ = some (.int .i64 s) := by first | (simp; done) | go_simp
  have D5 : (((w.alloc (.cells #[.int .i64 x0, .int .i64 y0, .int .i64 x1, .int .i64 y1, .int .i64 s, .slice A zs.length c, .slice B ps.length k] 27)).alloc (.cells #[.int .i64 a0, .int .i64 b0, .int .i64 a1, .int .i64 b1] 23)).alloc (.cells #[.int .i64 0, .int .i64 0, .int .i64 0, .int .i64 0, .int .i64 0, .slice none 0 0, .slice none 0 0] 27)).cell? ⟨w.heap.size, 5, none⟩ = some (.slice A zs.length c) := by first | (simp; done) | go_simp
  have D6 : (((w.alloc (.cells #[.int .i64 x0, .int .i64 y0, .int .i64 x1, .int .i64 y1, .int .i64 s, .slice A zs.length c, .slice B ps.length k] 27)).alloc (.cells #[.int .i64 a0, .int .i64 b0, .int .i64 a1, .int .i64 b1] 23)).alloc (.cells #[.int .i64 0, .int .i64 0, .int .i64 0, .int .i64 0, .int .i64 0, .slice none 0 0, .slice none 0 0] 27)).cell? ⟨w.heap.size, 6, none⟩ = some (.slice B ps.length k) := by first | (simp; done) | go_simp
  have R0 : (((w.alloc (.cells #[.int .i64 x0, .int .i64 y0, .int .i64 x1, .int .i64 y1, .int .i64 s, .slice A zs.length c, .slice B ps.length k] 27)).alloc (.cells #[.int .i64 a0, .int .i64 b0, .int .i64 a1, .int .i64 b1] 23)).alloc (.cells #[.int .i64 0, .int .i64 0, .int .i64 0, .int .i64 0, .int .i64 0, .slice none 0 0, .slice none 0 0] 27)).cell? ⟨w.heap.size + 1, 0, none⟩ = some (.int .i64 a0) := by first | (simp; done) | go_simp
  have R1 : (((w.alloc (.cells #[.int .i64 x0, .int .i64 y0, .int .i64 x1, .int .i64 y1, .int .i64 s, .slice A zs.length c, .slice B ps.length k] 27)).alloc (.cells #[.int .i64 a0, .int .i64 b0, .int .i64 a1, .int .i64 b1] 23)).alloc (.cells #[.int .i64 0, .int .i64 0, .int .i64 0, .int .i64 0, .int .i64 0, .slice none 0 0, .slice none 0 0] 27)).cell? ⟨w.heap.size + 1, 1, none⟩ = some (.int .i64 b0) := by first | (simp; done) | go_simp
  have R2 : (((w.alloc (.cells #[.int .i64 x0, .int .i64 y0, .int .i64 x1, .int .i64 y1, .int .i64 s, .slice A zs.length c, .slice B ps.length k] 27)).alloc (.cells #[.int .i64 a0, .int .i64 b0, .int .i64 a1, .int .i64 b1] 23)).alloc (.cells #[.int .i64 0, .int .i64 0, .int .i64 0, .int .i64 0, .int .i64 0, .slice none 0 0, .slice none 0 0] 27)).cell? ⟨w.heap.size + 1, 2, none⟩ = some (.int .i64 a1) := by first | (simp; done) | go_simp
  have R3 : (((w.alloc (.cells #[.int .i64 x0, .int .i64 y0, .int .i64 x1, .int .i64 y1, .int .i64 s, .slice A zs.length c, .slice B ps.length k] 27)).alloc (.cells #[.int .i64 a0, .int .i64 b0, .int .i64 a1, .int .i64 b1] 23)).alloc (.cells #[.int .i64 0, .int .i64 0, .int .i64 0, .int .i64 0, .int .i64 0, .slice none 0 0, .slice none 0 0] 27)).cell? ⟨w.heap.size + 1, 3, none⟩ = some (.int .i64 b1) := by first | (simp; done) | go_simp
  have HZ : Hid ((((w.alloc (.cells #[.int .i64 x0, .int .i64 y0, .int .i64 x1, .int .i64 y1, .int .i64 s, .slice A zs.length c, .slice B ps.length k] 27)).alloc (.cells #[.int .i64 a0, .int .i64 b0, .int .i64 a1, .int .i64 b1] 23)).alloc (.cells #[.int .i64 0, .int .i64 0, .int .i64 0, .int .i64 0, .int .i64 0, .slice none 0 0, .slice none 0 0] 27)).heap[w.heap.size + 2]? = some (.cells #[.int .i64 0, .int .i64 0, .int .i64 0, .int .i64 0, .int .i64 0, .slice none 0 0, .slice none 0 0] 27 (0, 0))) := by
    have h := heap_alloc_new ((w.alloc (.cells #[.int .i64 x0, .int .i64 y0, .int .i64 x1, .int .i64 y1, .int .i64 s, .slice A zs.length c, .slice B ps.length k] 27)).alloc (.cells #[.int .i64 a0, .int .i64 b0, .int .i64 a1, .int .i64 b1] 23)) (.cells #[.int .i64 0, .int .i64 0, .int .i64 0, .int .i64 0, .int .i64 0, .slice none 0 0, .slice none 0 0] 27)
    rw [show ((w.alloc (.cells #[.int .i64 x0, .int .i64 y0, .int .i64 x1, .int .i64 y1, .int .i64 s, .slice A zs.length c, .slice B ps.length k] 27)).alloc (.cells #[.int .i64 a0, .int .i64 b0, .int .i64 a1, .int .i64 b1] 23)).heap.size = w.heap.size + 2 by simp] at h
    exact h
  have hbo : w.heap.size ≤ w.heap.size + 2 := by omega
  have hta := assert_any
  have HR := Lib.hid (hr.out.below hB)
  have HP := Lib.hid (pr.out.below hB)
  go_enter Try.func34, Try.ntmps34
  go_wp2_with fail
  generalize ((w.alloc (.cells #[.int .i64 x0, .int .i64 y0, .int .i64 x1, .int .i64 y1, .int .i64 s, .slice A zs.length c, .slice B ps.length k] 27)).alloc (.cells #[.int .i64 a0, .int .i64 b0, .int .i64 a1, .int .i64 b1] 23)).alloc (.cells #[.int .i64 0, .int .i64 0, .int .i64 0, .int .i64 0, .int .i64 0, .slice none 0 0, .slice none 0 0] 27) = W0 at *
  generalize w.heap.size + 2 = bo at *
  generalize w.heap.size + 1 = br at *
  have P0 : Below W0.heap.size W0 W0.drew := (Below.refl _ _).drew
  have toS : ∀ W' : World, Below W0.heap.size W0 W' → (W'.cell? ⟨w.heap.size, 0, none⟩ = some (.int .i64 x0) ∧ W'.cell? ⟨w.heap.size, 1, none⟩ = some (.int .i64 y0) ∧ W'.cell? ⟨w.heap.size, 2, none⟩ = some (.int .i64 x1) ∧ W'.cell? ⟨w.heap.size, 3, none⟩ = some (.int .i64 y1) ∧ W'.cell? ⟨w.heap.size, 4, none⟩ = some (.int .i64 s) ∧ W'.cell? ⟨w.heap.size, 5, none⟩ = some (.slice A zs.length c) ∧ W'.cell? ⟨w.heap.size, 6, none⟩ = some (.slice B ps.length k) ∧ W'.cell? ⟨br, 0, none⟩ = some (.int .i64 a0) ∧ W'.cell? ⟨br, 1, none⟩ = some (.int .i64 b0) ∧ W'.cell? ⟨br, 2, none⟩ = some (.int .i64 a1) ∧ W'.cell? ⟨br, 3, none⟩ = some (.int .i64 b1)) := fun W' h => ⟨cell_kept D0 h, cell_kept D1 h, cell_kept D2 h, cell_kept D3 h, cell_kept D4 h, cell_kept D5 h, cell_kept D6 h, cell_kept R0 h, cell_kept R1 h, cell_kept R2 h, cell_kept R3 h⟩
  have TOS := Lib.hid toS
  clear toS
  have hzN := hB.size
  refine wp_region_held_drew (S := fun w' => w'.cell? ⟨w.heap.size, 0, none⟩ = some (.int .i64 x0) ∧ w'.cell? ⟨w.heap.size, 1, none⟩ = some (.int .i64 y0) ∧ w'.cell? ⟨w.heap.size, 2, none⟩ = some (.int .i64 x1) ∧ w'.cell? ⟨w.heap.size, 3, none⟩ = some (.int .i64 y1) ∧ w'.cell? ⟨w.heap.size, 4, none⟩ = some (.int .i64 s) ∧ w'.cell? ⟨w.heap.size, 5, none⟩ = some (.slice A zs.length c) ∧ w'.cell? ⟨w.heap.size, 6, none⟩ = some (.slice B ps.length k) ∧ w'.cell? ⟨br, 0, none⟩ = some (.int .i64 a0) ∧ w'.cell? ⟨br, 1, none⟩ = some (.int .i64 b0) ∧ w'.cell? ⟨br, 2, none⟩ = some (.int .i64 a1) ∧ w'.cell? ⟨br, 3, none⟩ = some (.int .i64 b1)) (by kernel_rfl) ?_ (fun hHeld => ?_)
  · (first | (refine TOS.out _ ?_; first | with_reducible exact P3 | with_reducible exact P2 | with_reducible exact P1 | with_reducible exact P0))
  refine wpAnyH_take (i := 0) (oi := _) (v := ?vr3_0) rfl (by kernel_rfl) (by kernel_rfl) (by kernel_rfl) (fun _ _ _ h => h) (Or.inl ⟨by rfl, ?hyr3_0⟩) (by assumption) ?restr3_0
  case hyr3_0 => (intro w hSw; (try dsimp only at hSw); go_simp <;> with_reducible rfl)
  try simp only [Act.put, List.getElem_toArray, List.getElem_cons_succ, List.getElem_cons_zero, List.setIfInBounds_toArray, List.set_cons_zero, List.set_cons_succ]
  refine wpAnyH_take (i := 2) (oi := _) (v := ?vr3_2) rfl (by kernel_rfl) (by kernel_rfl) (by kernel_rfl) (fun _ _ _ h => h) (Or.inl ⟨by rfl, ?hyr3_2⟩) (by assumption) ?restr3_2
  case hyr3_2 => (intro w hSw; (try dsimp only at hSw); go_simp <;> with_reducible rfl)
  try simp only [Act.put, List.getElem_toArray, List.getElem_cons_succ, List.getElem_cons_zero, List.setIfInBounds_toArray, List.set_cons_zero, List.set_cons_succ]
  refine wpAnyH_ready (rs := [1]) (by kernel_rfl) (by simp) ?_
  refine AllReadyH.cons (o := _) rfl (fun K hK => ?_) AllReadyH.nil
  go_simp
  (go_at_call 42; refine (to_any x0 y0 x1 y1 s A c zs B k ps _ (show Hid _ from HR.out.below P0) hl hn (show Hid _ from HP.out.below P0) pl).mono ?_; rintro e v1' ⟨g, A', c', B', k', rfl, hgb, hg, ho, hi, hq1⟩; have HG := Lib.hid hg; have HO := Lib.hid ho; have HI := Lib.hid hi; clear hg ho hi; have P1 : Below W0.heap.size W0 v1' := P0.trans (hq1.mono P0.size))
  refine hK.out _ _ ?_ (fun hHeld => ?_)
  · (first | (refine TOS.out _ ?_; first | with_reducible exact P3 | with_reducible exact P2 | with_reducible exact P1 | with_reducible exact P0))
  clear hK K
  try simp only [Act.put, List.getElem_toArray, List.getElem_cons_succ, List.getElem_cons_zero, List.setIfInBounds_toArray, List.set_cons_zero, List.set_cons_succ]
  refine wpAnyH_ready (rs := [3]) (by kernel_rfl) (by simp) ?_
  refine AllReadyH.cons (o := _) rfl (fun K hK => ?_) AllReadyH.nil
  go_simp
  (go_at_call 51; refine (rectangle_any a0 b0 a1 b1 _).mono ?_; rintro e v2' ⟨rfl, hq2⟩; replace HG := Lib.hid (heap_kept HG.out hq2); replace HO := Lib.hid (ownsRow_below HO.out hq2); replace HI := Lib.hid (ownsRow_below HI.out hq2); have P2 : Below W0.heap.size W0 v2' := P1.trans (hq2.mono P1.size))
  refine hK.out _ _ ?_ (fun hHeld => ?_)
  · (first | (refine TOS.out _ ?_; first | with_reducible exact P3 | with_reducible exact P2 | with_reducible exact P1 | with_reducible exact P0))
  clear hK K
  try simp only [Act.put, List.getElem_toArray, List.getElem_cons_succ, List.getElem_cons_zero, List.setIfInBounds_toArray, List.set_cons_zero, List.set_cons_succ]
  refine wpAnyH_ready (rs := [4]) (by kernel_rfl) (by simp) ?_
  refine AllReadyH.cons (o := _) rfl (fun K hK => ?_) AllReadyH.nil
  go_simp
  (go_at_call 54; obtain ⟨bb, ms, rfl, _, _, _, hmc, _⟩ := own_block HO.out (by have := hk.out; omega); have hcm := own_cap HO.out; refine (subImage_some g bb 0 c' k' m x0 y0 x1 y1 s zs B' ps a0 b0 a1 b1 c0 d0 c1 d1 _ HG.out m1 m2 m3 m4 n5 n6 HK (by have := hk.out; omega) (by omega) (by omega) q1 q2 q3 q4 p1 p2).mono ?_; rintro e v3' ⟨g3, rfl, hg3b, hg3, hq3⟩; have HG3 := Lib.hid hg3; replace HO := Lib.hid (ownsRow_below HO.out hq3); replace HI := Lib.hid (ownsRow_below HI.out hq3); clear hg3; have P3 : Below W0.heap.size W0 v3' := P2.trans (hq3.mono P2.size))
  refine hK.out _ _ ?_ (fun hHeld => ?_)
  · (first | (refine TOS.out _ ?_; first | with_reducible exact P3 | with_reducible exact P2 | with_reducible exact P1 | with_reducible exact P0))
  clear hK K
  try simp only [Act.put, List.getElem_toArray, List.getElem_cons_succ, List.getElem_cons_zero, List.setIfInBounds_toArray, List.set_cons_zero, List.set_cons_succ]
  refine wpAnyH_take (i := 5) (oi := _) (v := ?vr3_5) rfl (by kernel_rfl) (by kernel_rfl) (by kernel_rfl) (fun _ _ _ h => h) (Or.inl ⟨by rfl, ?hyr3_5⟩) (by assumption) ?restr3_5
  case hyr3_5 => (intro w hSw; (try dsimp only at hSw); go_simp <;> with_reducible rfl)
  try simp only [Act.put, List.getElem_toArray, List.getElem_cons_succ, List.getElem_cons_zero, List.setIfInBounds_toArray, List.set_cons_zero, List.set_cons_succ]
  refine wpAnyH_take (i := 6) (oi := _) (v := ?vr3_6) rfl (by kernel_rfl) (by kernel_rfl) (by kernel_rfl) (fun _ _ _ h => h) (Or.inl ⟨by rfl, ?hyr3_6⟩) (by assumption) ?restr3_6
  case hyr3_6 => (intro w hSw; (try dsimp only at hSw); go_simp <;> with_reducible rfl)
  try simp only [Act.put, List.getElem_toArray, List.getElem_cons_succ, List.getElem_cons_zero, List.setIfInBounds_toArray, List.set_cons_zero, List.set_cons_succ]
  refine wpAnyH_take (i := 7) (oi := _) (v := ?vr3_7) rfl (by kernel_rfl) (by kernel_rfl) (by kernel_rfl) (fun _ _ _ h => h) (Or.inl ⟨by rfl, ?hyr3_7⟩) (by assumption) ?restr3_7
  case hyr3_7 => (intro w hSw; (try dsimp only at hSw); go_simp <;> with_reducible rfl)
  try simp only [Act.put, List.getElem_toArray, List.getElem_cons_succ, List.getElem_cons_zero, List.setIfInBounds_toArray, List.set_cons_zero, List.set_cons_succ]
  refine wpAnyH_take (i := 8) (oi := _) (v := ?vr3_8) rfl (by kernel_rfl) (by kernel_rfl) (by kernel_rfl) (fun _ _ _ h => h) (Or.inl ⟨by rfl, ?hyr3_8⟩) (by assumption) ?restr3_8
  case hyr3_8 => (intro w hSw; (try dsimp only at hSw); go_simp <;> with_reducible rfl)
  try simp only [Act.put, List.getElem_toArray, List.getElem_cons_succ, List.getElem_cons_zero, List.setIfInBounds_toArray, List.set_cons_zero, List.set_cons_succ]
  refine wpAnyH_take (i := 9) (oi := _) (v := ?vr3_9) rfl (by kernel_rfl) (by kernel_rfl) (by kernel_rfl) (fun _ _ _ h => h) (Or.inl ⟨by rfl, ?hyr3_9⟩) (by assumption) ?restr3_9
  case hyr3_9 => (intro w hSw; (try dsimp only at hSw); go_simp <;> with_reducible rfl)
  try simp only [Act.put, List.getElem_toArray, List.getElem_cons_succ, List.getElem_cons_zero, List.setIfInBounds_toArray, List.set_cons_zero, List.set_cons_succ]
  refine wpAnyH_take (i := 10) (oi := _) (v := ?vr3_10) rfl (by kernel_rfl) (by kernel_rfl) (by kernel_rfl) (fun _ _ _ h => h) (Or.inl ⟨by rfl, ?hyr3_10⟩) (by assumption) ?restr3_10
  case hyr3_10 => (intro w hSw; (try dsimp only at hSw); go_simp <;> with_reducible rfl)
  try simp only [Act.put, List.getElem_toArray, List.getElem_cons_succ, List.getElem_cons_zero, List.setIfInBounds_toArray, List.set_cons_zero, List.set_cons_succ]
  refine wpAnyH_done (by kernel_rfl) ?_ _
  have Z3 := Lib.hid (heap_kept HZ.out P3)
  have hB3 : Below w.heap.size w v3' := hB.trans (P3.mono hzN)
  have HIr := Lib.hid (IReads.of_own HI.out)
  go_wp2_with fail
  refine (of_any g3 c0 d0 c1 d1 s (some ⟨bb, 0 + m, none⟩) (c' - m) zm B' k' ps _ (by rw [HL.out]; exact HG3.out) (show Hid (Reads _ _ _) from (by have h := (Reads.of_own HO.out).drop m; rw [HY.out] at h; exact h)) hlm (show Hid _ from fun e => (by cases e)) HIr pl).mono ?_
  rintro e u4 ⟨E1, f1, E2, f2, rfl, hw1, hw2, hv4⟩
  have hB4 : Below w.heap.size w u4 := hB3.trans (hv4.mono hB3.size)
  have Z4 := Lib.hid (heap_kept Z3.out hv4)
  have hz4 : w.heap.size ≤ v3'.heap.size := hB3.size
  have zc0 := row_cell (i := 0) (v := .int .i64 0) Z4.out rfl
  have zc1 := row_cell (i := 1) (v := .int .i64 0) Z4.out rfl
  have zc2 := row_cell (i := 2) (v := .int .i64 0) Z4.out rfl
  have zc3 := row_cell (i := 3) (v := .int .i64 0) Z4.out rfl
  have zc4 := row_cell (i := 4) (v := .int .i64 0) Z4.out rfl
  have zc5 := row_cell (i := 5) (v := .slice none 0 0) Z4.out rfl
  have zc6 := row_cell (i := 6) (v := .slice none 0 0) Z4.out rfl
  have zf0 := frozen_of_row _ _ 0 _ _ Z4.out
  have zf1 := frozen_of_row _ _ 1 _ _ Z4.out
  have zf2 := frozen_of_row _ _ 2 _ _ Z4.out
  have zf3 := frozen_of_row _ _ 3 _ _ Z4.out
  have zf4 := frozen_of_row _ _ 4 _ _ Z4.out
  have zf5 := frozen_of_row _ _ 5 _ _ Z4.out
  have zf6 := frozen_of_row _ _ 6 _ _ Z4.out
  go_wp2_with fail
  clear zc0 zf0 zc1 zf1 zc2 zf2 zc3 zf3 zc4 zf4 zc5 zf5 zc6 zf6 TOS hHeld P0 P1 P2 P3
  have HF : Hid ((((((((u4.setCell ⟨bo, 0, none⟩ (.int .i64 c0)).setCell ⟨bo, 1, none⟩ (.int .i64 d0)).setCell ⟨bo, 2, none⟩ (.int .i64 c1)).setCell ⟨bo, 3, none⟩ (.int .i64 d1)).setCell ⟨bo, 4, none⟩ (.int .i64 s)).setCell ⟨bo, 5, none⟩ (.slice E1 zm.length f1)).setCell ⟨bo, 6, none⟩ (.slice E2 ps.length f2)).heap[bo]? = some (.cells #[.int .i64 c0, .int .i64 d0, .int .i64 c1, .int .i64 d1, .int .i64 s, .slice E1 zm.length f1, .slice E2 ps.length f2] 27 (0, 0))) := sets7 Z4.out
  have HBx : Below w.heap.size w (((((((u4.setCell ⟨bo, 0, none⟩ (.int .i64 c0)).setCell ⟨bo, 1, none⟩ (.int .i64 d0)).setCell ⟨bo, 2, none⟩ (.int .i64 c1)).setCell ⟨bo, 3, none⟩ (.int .i64 d1)).setCell ⟨bo, 4, none⟩ (.int .i64 s)).setCell ⟨bo, 5, none⟩ (.slice E1 zm.length f1)).setCell ⟨bo, 6, none⟩ (.slice E2 ps.length f2)) := sets7_below hB4 hbo
  have HW1 : Hid ((((((((u4.setCell ⟨bo, 0, none⟩ (.int .i64 c0)).setCell ⟨bo, 1, none⟩ (.int .i64 d0)).setCell ⟨bo, 2, none⟩ (.int .i64 c1)).setCell ⟨bo, 3, none⟩ (.int .i64 d1)).setCell ⟨bo, 4, none⟩ (.int .i64 s)).setCell ⟨bo, 5, none⟩ (.slice E1 zm.length f1)).setCell ⟨bo, 6, none⟩ (.slice E2 ps.length f2)).ownsRow w.heap.size 5 1 (.slice E1 zm.length f1) zm.length (zm.map (Value.int .u8))) := sets7_own (ownsRow_base hw1 hz4) Z4.out (by decide)
  have HW2 : Hid (POwn (((((((u4.setCell ⟨bo, 0, none⟩ (.int .i64 c0)).setCell ⟨bo, 1, none⟩ (.int .i64 d0)).setCell ⟨bo, 2, none⟩ (.int .i64 c1)).setCell ⟨bo, 3, none⟩ (.int .i64 d1)).setCell ⟨bo, 4, none⟩ (.int .i64 s)).setCell ⟨bo, 5, none⟩ (.slice E1 zm.length f1)).setCell ⟨bo, 6, none⟩ (.slice E2 ps.length f2)) w.heap.size E2 f2 ps) := sets7_own (ownsRow_base hw2 hz4) Z4.out (by decide)
  generalize (((((((u4.setCell ⟨bo, 0, none⟩ (.int .i64 c0)).setCell ⟨bo, 1, none⟩ (.int .i64 d0)).setCell ⟨bo, 2, none⟩ (.int .i64 c1)).setCell ⟨bo, 3, none⟩ (.int .i64 d1)).setCell ⟨bo, 4, none⟩ (.int .i64 s)).setCell ⟨bo, 5, none⟩ (.slice E1 zm.length f1)).setCell ⟨bo, 6, none⟩ (.slice E2 ps.length f2)) = wz at *
  clear hw1 hw2
  have r0 := row_cell (i := 0) (v := .int .i64 c0) HF.out rfl
  have r1 := row_cell (i := 1) (v := .int .i64 d0) HF.out rfl
  have r2 := row_cell (i := 2) (v := .int .i64 c1) HF.out rfl
  have r3 := row_cell (i := 3) (v := .int .i64 d1) HF.out rfl
  have r4 := row_cell (i := 4) (v := .int .i64 s) HF.out rfl
  have r5 := row_cell (i := 5) (v := .slice E1 zm.length f1) HF.out rfl
  have r6 := row_cell (i := 6) (v := .slice E2 ps.length f2) HF.out rfl
  go_wp2
  exact bodyPost_ret (v := .tuple #[.agg #[.int .i64 c0, .int .i64 d0, .int .i64 c1, .int .i64 d1, .int .i64 s, .slice E1 zm.length f1, .slice E2 ps.length f2], .bool true]) (by simp [results, Try.results34, go_sem, r0, r1, r2, r3, r4, r5, r6]) rfl ⟨E1, f1, E2, f2, rfl, HW1.out, HW2.out, HBx⟩

end Go.Proofs.Ytkhgobeeaiagfaa
