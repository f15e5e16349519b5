/- Films: ofNYCbCrA. -/
import Derived.Test.YtcomldkihibfjaaFilmLaw
namespace Go.Proofs.Ytcomldkihibfjaa
open Go.RowKit
set_option linter.unusedVariables false
set_option linter.unusedSimpArgs false

theorem sets12 {u : World} {X : Nat} {t : TypeId} {a0 a1 a2 a3 a4 a5 a6 a7 a8 a9 a10 a11 b0 b1 b2 b3 b4 b5 b6 b7 b8 b9 b10 b11 : Value} (HZ : u.heap[X]? = some (.cells #[a0, a1, a2, a3, a4, a5, a6, a7, a8, a9, a10, a11] t (0, 0))) : ((((((((((((u.setCell ⟨X, 0, none⟩ b0).setCell ⟨X, 1, none⟩ b1).setCell ⟨X, 2, none⟩ b2).setCell ⟨X, 3, none⟩ b3).setCell ⟨X, 4, none⟩ b4).setCell ⟨X, 5, none⟩ b5).setCell ⟨X, 6, none⟩ b6).setCell ⟨X, 7, none⟩ b7).setCell ⟨X, 8, none⟩ b8).setCell ⟨X, 9, none⟩ b9).setCell ⟨X, 10, none⟩ b10).setCell ⟨X, 11, none⟩ b11).heap[X]? = some (.cells #[b0, b1, b2, b3, b4, b5, b6, b7, b8, b9, b10, b11] t (0, 0)) := by
  have h1 := heap_setCell_same _ X 0 _ _ b0 HZ
  have h2 := heap_setCell_same _ X 1 _ _ b1 h1
  have h3 := heap_setCell_same _ X 2 _ _ b2 h2
  have h4 := heap_setCell_same _ X 3 _ _ b3 h3
  have h5 := heap_setCell_same _ X 4 _ _ b4 h4
  have h6 := heap_setCell_same _ X 5 _ _ b5 h5
  have h7 := heap_setCell_same _ X 6 _ _ b6 h6
  have h8 := heap_setCell_same _ X 7 _ _ b7 h7
  have h9 := heap_setCell_same _ X 8 _ _ b8 h8
  have h10 := heap_setCell_same _ X 9 _ _ b9 h9
  have h11 := heap_setCell_same _ X 10 _ _ b10 h10
  have h12 := heap_setCell_same _ X 11 _ _ b11 h11
  simpa only [List.setIfInBounds_toArray, List.set_cons_zero, List.set_cons_succ] using h12
theorem sets12_own {u : World} {X : Nat} {t : TypeId} {cs : Array Value} {b0 b1 b2 b3 b4 b5 b6 b7 b8 b9 b10 b11 : Value} {base e size n : Nat} {v : Value} {xs : List Value} (h : u.ownsRow base e size v n xs) (HZ : u.heap[X]? = some (.cells cs t (0, 0))) (hne : e ≠ t) : ((((((((((((u.setCell ⟨X, 0, none⟩ b0).setCell ⟨X, 1, none⟩ b1).setCell ⟨X, 2, none⟩ b2).setCell ⟨X, 3, none⟩ b3).setCell ⟨X, 4, none⟩ b4).setCell ⟨X, 5, none⟩ b5).setCell ⟨X, 6, none⟩ b6).setCell ⟨X, 7, none⟩ b7).setCell ⟨X, 8, none⟩ b8).setCell ⟨X, 9, none⟩ b9).setCell ⟨X, 10, none⟩ b10).setCell ⟨X, 11, none⟩ b11).ownsRow base e size v n xs := by
  have g0 : u.grownBy u (some X) := grown_of (Below.refl _ _)
  have g1 := grown_setCell g0 (p := ⟨X, 0, none⟩) (Or.inl rfl) b0
  have g2 := grown_setCell g1 (p := ⟨X, 1, none⟩) (Or.inl rfl) b1
  have g3 := grown_setCell g2 (p := ⟨X, 2, none⟩) (Or.inl rfl) b2
  have g4 := grown_setCell g3 (p := ⟨X, 3, none⟩) (Or.inl rfl) b3
  have g5 := grown_setCell g4 (p := ⟨X, 4, none⟩) (Or.inl rfl) b4
  have g6 := grown_setCell g5 (p := ⟨X, 5, none⟩) (Or.inl rfl) b5
  have g7 := grown_setCell g6 (p := ⟨X, 6, none⟩) (Or.inl rfl) b6
  have g8 := grown_setCell g7 (p := ⟨X, 7, none⟩) (Or.inl rfl) b7
  have g9 := grown_setCell g8 (p := ⟨X, 8, none⟩) (Or.inl rfl) b8
  have g10 := grown_setCell g9 (p := ⟨X, 9, none⟩) (Or.inl rfl) b9
  have g11 := grown_setCell g10 (p := ⟨X, 10, none⟩) (Or.inl rfl) b10
  have g12 := grown_setCell g11 (p := ⟨X, 11, none⟩) (Or.inl rfl) b11
  exact h.kept g12 (Or.inr (own_blk h HZ hne).symm)
theorem sets12_below {u W : World} {X B : Nat} {b0 b1 b2 b3 b4 b5 b6 b7 b8 b9 b10 b11 : Value} (h : Below B W u) (hX : B ≤ X) : Below B W ((((((((((((u.setCell ⟨X, 0, none⟩ b0).setCell ⟨X, 1, none⟩ b1).setCell ⟨X, 2, none⟩ b2).setCell ⟨X, 3, none⟩ b3).setCell ⟨X, 4, none⟩ b4).setCell ⟨X, 5, none⟩ b5).setCell ⟨X, 6, none⟩ b6).setCell ⟨X, 7, none⟩ b7).setCell ⟨X, 8, none⟩ b8).setCell ⟨X, 9, none⟩ b9).setCell ⟨X, 10, none⟩ b10).setCell ⟨X, 11, none⟩ b11) := by
  have h1 := h.setCell (p := ⟨X, 0, none⟩) hX b0
  have h2 := h1.setCell (p := ⟨X, 1, none⟩) hX b1
  have h3 := h2.setCell (p := ⟨X, 2, none⟩) hX b2
  have h4 := h3.setCell (p := ⟨X, 3, none⟩) hX b3
  have h5 := h4.setCell (p := ⟨X, 4, none⟩) hX b4
  have h6 := h5.setCell (p := ⟨X, 5, none⟩) hX b5
  have h7 := h6.setCell (p := ⟨X, 6, none⟩) hX b6
  have h8 := h7.setCell (p := ⟨X, 7, none⟩) hX b7
  have h9 := h8.setCell (p := ⟨X, 8, none⟩) hX b8
  have h10 := h9.setCell (p := ⟨X, 9, none⟩) hX b9
  have h11 := h10.setCell (p := ⟨X, 10, none⟩) hX b10
  have h12 := h11.setCell (p := ⟨X, 11, none⟩) hX b11
  exact h12
theorem set_other {u : World} {X g i j : Nat} {b v : Value} (hne : g ≠ X) (h : u.cell? ⟨g, j, none⟩ = some v) : (u.setCell ⟨X, i, none⟩ b).cell? ⟨g, j, none⟩ = some v :=
  (World.cell?_setCell_other u _ _ b (fun e => hne (by injection e with e; exact e.symm))).trans h
theorem sets12_other {u : World} {X g j : Nat} {b0 b1 b2 b3 b4 b5 b6 b7 b8 b9 b10 b11 v : Value} (hne : g ≠ X) (h : u.cell? ⟨g, j, none⟩ = some v) : ((((((((((((u.setCell ⟨X, 0, none⟩ b0).setCell ⟨X, 1, none⟩ b1).setCell ⟨X, 2, none⟩ b2).setCell ⟨X, 3, none⟩ b3).setCell ⟨X, 4, none⟩ b4).setCell ⟨X, 5, none⟩ b5).setCell ⟨X, 6, none⟩ b6).setCell ⟨X, 7, none⟩ b7).setCell ⟨X, 8, none⟩ b8).setCell ⟨X, 9, none⟩ b9).setCell ⟨X, 10, none⟩ b10).setCell ⟨X, 11, none⟩ b11).cell? ⟨g, j, none⟩ = some v :=
  (set_other hne (set_other hne (set_other hne (set_other hne (set_other hne (set_other hne (set_other hne (set_other hne (set_other hne (set_other hne (set_other hne (set_other hne h))))))))))))

/-- What a call hands back that makes a film as plain data, with bytes of its own. -/
def FilmData (z1 z2 z3 z4 : List Int) (rt ys cs at4 x0 y0 x1 y1 : Int) (w : World) (e : Ending) (w' : World) : Prop :=
  ∃ (A1 A2 A3 A4 : Option Addr) (c1 c2 c3 c4 : Nat), e = .returned (.agg #[.int .i64 x0, .int .i64 y0, .int .i64 x1, .int .i64 y1, .int .i64 rt, .int .i64 ys, .int .i64 cs, .int .i64 at4, .slice A1 z1.length c1, .slice A2 z2.length c2, .slice A3 z3.length c3, .slice A4 z4.length c4]) ∧ w'.ownsRow w.heap.size 5 1 (.slice A1 z1.length c1) z1.length (z1.map (Value.int .u8)) ∧ w'.ownsRow w.heap.size 5 1 (.slice A2 z2.length c2) z2.length (z2.map (Value.int .u8)) ∧ w'.ownsRow w.heap.size 5 1 (.slice A3 z3.length c3) z3.length (z3.map (Value.int .u8)) ∧ w'.ownsRow w.heap.size 5 1 (.slice A4 z4.length c4) z4.length (z4.map (Value.int .u8)) ∧ Below w.heap.size w w'

set_option maxRecDepth 100000 in
set_option maxHeartbeats 2000000 in
theorem of_any (g : Nat) (x0 y0 x1 y1 rt ys cs at4 : Int) (A1 A2 A3 A4 : Option Addr) (c1 c2 c3 c4 : Nat) (z1 z2 z3 z4 : List Int) (w : World) (hg : w.heap[g]? = some (.cells #[.slice A1 z1.length c1, .slice A2 z2.length c2, .slice A3 z3.length c3, .int .i64 ys, .int .i64 cs, .int .i64 rt, .int .i64 x0, .int .i64 y0, .int .i64 x1, .int .i64 y1, .slice A4 z4.length c4, .int .i64 at4] 83 (0, 0))) (hr1 : Hid (Reads w A1 z1)) (hl1 : Small z1) (hn1 : Hid (A1 = none → c1 = 0)) (hr2 : Hid (Reads w A2 z2)) (hl2 : Small z2) (hn2 : Hid (A2 = none → c2 = 0)) (hr3 : Hid (Reads w A3 z3)) (hl3 : Small z3) (hn3 : Hid (A3 = none → c3 = 0)) (hr4 : Hid (Reads w A4 z4)) (hl4 : Small z4) (hn4 : Hid (A4 = none → c4 = 0)) :
    Calls Try.prog 31 #[.pointer (some ⟨g, 0, none⟩)] w (FilmData z1 z2 z3 z4 rt ys cs at4 x0 y0 x1 y1 w) := by
  have hgl : g < w.heap.size := heap_lt hg
  have g0 := row_cell (i := 0) (v := .slice A1 z1.length c1) hg rfl
  have g1 := row_cell (i := 1) (v := .slice A2 z2.length c2) hg rfl
  have g2 := row_cell (i := 2) (v := .slice A3 z3.length c3) hg rfl
  have g3 := row_cell (i := 3) (v := .int .i64 ys) hg rfl
  have g4 := row_cell (i := 4) (v := .int .i64 cs) hg rfl
  have g5 := row_cell (i := 5) (v := .int .i64 rt) hg rfl
  have g6 := row_cell (i := 6) (v := .int .i64 x0) hg rfl
  have g7 := row_cell (i := 7) (v := .int .i64 y0) hg rfl
  have g8 := row_cell (i := 8) (v := .int .i64 x1) hg rfl
  have g9 := row_cell (i := 9) (v := .int .i64 y1) hg rfl
  have g10 := row_cell (i := 10) (v := .slice A4 z4.length c4) hg rfl
  have g11 := row_cell (i := 11) (v := .int .i64 at4) hg rfl
  clear hg
  have hgn : g ≠ w.heap.size := by omega
  have P0 : Below w.heap.size w (w.alloc (.cells #[.int .i64 0, .int .i64 0, .int .i64 0, .int .i64 0, .int .i64 0, .int .i64 0, .int .i64 0, .int .i64 0, .slice none 0 0, .slice none 0 0, .slice none 0 0, .slice none 0 0] 30)).drew := ((Below.refl _ _).alloc (Nat.le_refl _) _).drew
  have Z0 := Lib.hid (show (w.alloc (.cells #[.int .i64 0, .int .i64 0, .int .i64 0, .int .i64 0, .int .i64 0, .int .i64 0, .int .i64 0, .int .i64 0, .slice none 0 0, .slice none 0 0, .slice none 0 0, .slice none 0 0] 30)).drew.heap[w.heap.size]? = some (.cells #[.int .i64 0, .int .i64 0, .int .i64 0, .int .i64 0, .int .i64 0, .int .i64 0, .int .i64 0, .int .i64 0, .slice none 0 0, .slice none 0 0, .slice none 0 0, .slice none 0 0] 30 (0, 0)) from heap_alloc_new w _)
  have toS : ∀ W' : World, Below w.heap.size w W' → (W'.cell? ⟨g, 0, none⟩ = some (.slice A1 z1.length c1) ∧ W'.cell? ⟨g, 1, none⟩ = some (.slice A2 z2.length c2) ∧ W'.cell? ⟨g, 2, none⟩ = some (.slice A3 z3.length c3) ∧ W'.cell? ⟨g, 3, none⟩ = some (.int .i64 ys) ∧ W'.cell? ⟨g, 4, none⟩ = some (.int .i64 cs) ∧ W'.cell? ⟨g, 5, none⟩ = some (.int .i64 rt) ∧ W'.cell? ⟨g, 6, none⟩ = some (.int .i64 x0) ∧ W'.cell? ⟨g, 7, none⟩ = some (.int .i64 y0) ∧ W'.cell? ⟨g, 8, none⟩ = some (.int .i64 x1) ∧ W'.cell? ⟨g, 9, none⟩ = some (.int .i64 y1) ∧ W'.cell? ⟨g, 10, none⟩ = some (.slice A4 z4.length c4) ∧ W'.cell? ⟨g, 11, none⟩ = some (.int .i64 at4)) := fun W' h => ⟨cell_kept g0 h, cell_kept g1 h, cell_kept g2 h, cell_kept g3 h, cell_kept g4 h, cell_kept g5 h, cell_kept g6 h, cell_kept g7 h, cell_kept g8 h, cell_kept g9 h, cell_kept g10 h, cell_kept g11 h⟩
  have TOS := Lib.hid toS
  clear toS g0 g1 g2 g3 g4 g5 g6 g7 g8 g9 g10 g11
  go_enter Try.func31, Try.ntmps31
  go_wp2_with fail
  refine wp_region_held_drew (S := fun w' => w'.cell? ⟨g, 0, none⟩ = some (.slice A1 z1.length c1) ∧ w'.cell? ⟨g, 1, none⟩ = some (.slice A2 z2.length c2) ∧ w'.cell? ⟨g, 2, none⟩ = some (.slice A3 z3.length c3) ∧ w'.cell? ⟨g, 3, none⟩ = some (.int .i64 ys) ∧ w'.cell? ⟨g, 4, none⟩ = some (.int .i64 cs) ∧ w'.cell? ⟨g, 5, none⟩ = some (.int .i64 rt) ∧ w'.cell? ⟨g, 6, none⟩ = some (.int .i64 x0) ∧ w'.cell? ⟨g, 7, none⟩ = some (.int .i64 y0) ∧ w'.cell? ⟨g, 8, none⟩ = some (.int .i64 x1) ∧ w'.cell? ⟨g, 9, none⟩ = some (.int .i64 y1) ∧ w'.cell? ⟨g, 10, none⟩ = some (.slice A4 z4.length c4) ∧ w'.cell? ⟨g, 11, none⟩ = some (.int .i64 at4)) (by kernel_rfl) ?_ (fun hHeld => ?_)
  · (first | (refine TOS.out _ ?_; first | with_reducible exact P5 | with_reducible exact P4 | with_reducible exact P3 | with_reducible exact P2 | with_reducible exact P1 | with_reducible exact P0))
  refine wpAnyH_take (i := 0) (oi := _) (v := ?v0) rfl (by kernel_rfl) (by kernel_rfl) (by kernel_rfl) (fun _ _ _ h => h) (Or.inl ⟨by rfl, ?hy0⟩) (by assumption) ?rest0
  case hy0 => (intro w hSw; (try dsimp only at hSw); go_simp <;> with_reducible rfl)
  try simp only [Act.put, List.getElem_toArray, List.getElem_cons_succ, List.getElem_cons_zero, List.setIfInBounds_toArray, List.set_cons_zero, List.set_cons_succ]
  refine wpAnyH_take (i := 1) (oi := _) (v := ?v1) rfl (by kernel_rfl) (by kernel_rfl) (by kernel_rfl) (fun _ _ _ h => h) (Or.inl ⟨by rfl, ?hy1⟩) (by assumption) ?rest1
  case hy1 => (intro w hSw; (try dsimp only at hSw); go_simp <;> with_reducible rfl)
  try simp only [Act.put, List.getElem_toArray, List.getElem_cons_succ, List.getElem_cons_zero, List.setIfInBounds_toArray, List.set_cons_zero, List.set_cons_succ]
  refine wpAnyH_take (i := 2) (oi := _) (v := ?v2) rfl (by kernel_rfl) (by kernel_rfl) (by kernel_rfl) (fun _ _ _ h => h) (Or.inl ⟨by rfl, ?hy2⟩) (by assumption) ?rest2
  case hy2 => (intro w hSw; (try dsimp only at hSw); go_simp <;> with_reducible rfl)
  try simp only [Act.put, List.getElem_toArray, List.getElem_cons_succ, List.getElem_cons_zero, List.setIfInBounds_toArray, List.set_cons_zero, List.set_cons_succ]
  refine wpAnyH_take (i := 3) (oi := _) (v := ?v3) rfl (by kernel_rfl) (by kernel_rfl) (by kernel_rfl) (fun _ _ _ h => h) (Or.inl ⟨by rfl, ?hy3⟩) (by assumption) ?rest3
  case hy3 => (intro w hSw; (try dsimp only at hSw); go_simp <;> with_reducible rfl)
  try simp only [Act.put, List.getElem_toArray, List.getElem_cons_succ, List.getElem_cons_zero, List.setIfInBounds_toArray, List.set_cons_zero, List.set_cons_succ]
  refine wpAnyH_take (i := 4) (oi := _) (v := ?v4) rfl (by kernel_rfl) (by kernel_rfl) (by kernel_rfl) (fun _ _ _ h => h) (Or.inl ⟨by rfl, ?hy4⟩) (by assumption) ?rest4
  case hy4 => (intro w hSw; (try dsimp only at hSw); go_simp <;> with_reducible rfl)
  try simp only [Act.put, List.getElem_toArray, List.getElem_cons_succ, List.getElem_cons_zero, List.setIfInBounds_toArray, List.set_cons_zero, List.set_cons_succ]
  refine wpAnyH_take (i := 6) (oi := _) (v := ?v6) rfl (by kernel_rfl) (by kernel_rfl) (by kernel_rfl) (fun _ _ _ h => h) (Or.inl ⟨by rfl, ?hy6⟩) (by assumption) ?rest6
  case hy6 => (intro w hSw; (try dsimp only at hSw); go_simp <;> with_reducible rfl)
  try simp only [Act.put, List.getElem_toArray, List.getElem_cons_succ, List.getElem_cons_zero, List.setIfInBounds_toArray, List.set_cons_zero, List.set_cons_succ]
  refine wpAnyH_take (i := 7) (oi := _) (v := ?v7) rfl (by kernel_rfl) (by kernel_rfl) (by kernel_rfl) (fun _ _ _ h => h) (Or.inl ⟨by rfl, ?hy7⟩) (by assumption) ?rest7
  case hy7 => (intro w hSw; (try dsimp only at hSw); go_simp <;> with_reducible rfl)
  try simp only [Act.put, List.getElem_toArray, List.getElem_cons_succ, List.getElem_cons_zero, List.setIfInBounds_toArray, List.set_cons_zero, List.set_cons_succ]
  refine wpAnyH_take (i := 8) (oi := _) (v := ?v8) rfl (by kernel_rfl) (by kernel_rfl) (by kernel_rfl) (fun _ _ _ h => h) (Or.inl ⟨by rfl, ?hy8⟩) (by assumption) ?rest8
  case hy8 => (intro w hSw; (try dsimp only at hSw); go_simp <;> with_reducible rfl)
  try simp only [Act.put, List.getElem_toArray, List.getElem_cons_succ, List.getElem_cons_zero, List.setIfInBounds_toArray, List.set_cons_zero, List.set_cons_succ]
  refine wpAnyH_take (i := 9) (oi := _) (v := ?v9) rfl (by kernel_rfl) (by kernel_rfl) (by kernel_rfl) (fun _ _ _ h => h) (Or.inl ⟨by rfl, ?hy9⟩) (by assumption) ?rest9
  case hy9 => (intro w hSw; (try dsimp only at hSw); go_simp <;> with_reducible rfl)
  try simp only [Act.put, List.getElem_toArray, List.getElem_cons_succ, List.getElem_cons_zero, List.setIfInBounds_toArray, List.set_cons_zero, List.set_cons_succ]
  refine wpAnyH_take (i := 10) (oi := _) (v := ?v10) rfl (by kernel_rfl) (by kernel_rfl) (by kernel_rfl) (fun _ _ _ h => h) (Or.inl ⟨by rfl, ?hy10⟩) (by assumption) ?rest10
  case hy10 => (intro w hSw; (try dsimp only at hSw); go_simp <;> with_reducible rfl)
  try simp only [Act.put, List.getElem_toArray, List.getElem_cons_succ, List.getElem_cons_zero, List.setIfInBounds_toArray, List.set_cons_zero, List.set_cons_succ]
  refine wpAnyH_take (i := 11) (oi := _) (v := ?v11) rfl (by kernel_rfl) (by kernel_rfl) (by kernel_rfl) (fun _ _ _ h => h) (Or.inl ⟨by rfl, ?hy11⟩) (by assumption) ?rest11
  case hy11 => (intro w hSw; (try dsimp only at hSw); go_simp <;> with_reducible rfl)
  try simp only [Act.put, List.getElem_toArray, List.getElem_cons_succ, List.getElem_cons_zero, List.setIfInBounds_toArray, List.set_cons_zero, List.set_cons_succ]
  refine wpAnyH_take (i := 12) (oi := _) (v := ?v12) rfl (by kernel_rfl) (by kernel_rfl) (by kernel_rfl) (fun _ _ _ h => h) (Or.inl ⟨by rfl, ?hy12⟩) (by assumption) ?rest12
  case hy12 => (intro w hSw; (try dsimp only at hSw); go_simp <;> with_reducible rfl)
  try simp only [Act.put, List.getElem_toArray, List.getElem_cons_succ, List.getElem_cons_zero, List.setIfInBounds_toArray, List.set_cons_zero, List.set_cons_succ]
  refine wpAnyH_take (i := 13) (oi := _) (v := ?v13) rfl (by kernel_rfl) (by kernel_rfl) (by kernel_rfl) (fun _ _ _ h => h) (Or.inl ⟨by rfl, ?hy13⟩) (by assumption) ?rest13
  case hy13 => (intro w hSw; (try dsimp only at hSw); go_simp <;> with_reducible rfl)
  try simp only [Act.put, List.getElem_toArray, List.getElem_cons_succ, List.getElem_cons_zero, List.setIfInBounds_toArray, List.set_cons_zero, List.set_cons_succ]
  refine wpAnyH_take (i := 14) (oi := _) (v := ?v14) rfl (by kernel_rfl) (by kernel_rfl) (by kernel_rfl) (fun _ _ _ h => h) (Or.inl ⟨by rfl, ?hy14⟩) (by assumption) ?rest14
  case hy14 => (intro w hSw; (try dsimp only at hSw); go_simp <;> with_reducible rfl)
  try simp only [Act.put, List.getElem_toArray, List.getElem_cons_succ, List.getElem_cons_zero, List.setIfInBounds_toArray, List.set_cons_zero, List.set_cons_succ]
  refine wpAnyH_take (i := 15) (oi := _) (v := ?v15) rfl (by kernel_rfl) (by kernel_rfl) (by kernel_rfl) (fun _ _ _ h => h) (Or.inl ⟨by rfl, ?hy15⟩) (by assumption) ?rest15
  case hy15 => (intro w hSw; (try dsimp only at hSw); go_simp <;> with_reducible rfl)
  try simp only [Act.put, List.getElem_toArray, List.getElem_cons_succ, List.getElem_cons_zero, List.setIfInBounds_toArray, List.set_cons_zero, List.set_cons_succ]
  refine wpAnyH_take (i := 16) (oi := _) (v := ?v16) rfl (by kernel_rfl) (by kernel_rfl) (by kernel_rfl) (fun _ _ _ h => h) (Or.inl ⟨by rfl, ?hy16⟩) (by assumption) ?rest16
  case hy16 => (intro w hSw; (try dsimp only at hSw); go_simp <;> with_reducible rfl)
  try simp only [Act.put, List.getElem_toArray, List.getElem_cons_succ, List.getElem_cons_zero, List.setIfInBounds_toArray, List.set_cons_zero, List.set_cons_succ]
  refine wpAnyH_take (i := 17) (oi := _) (v := ?v17) rfl (by kernel_rfl) (by kernel_rfl) (by kernel_rfl) (fun _ _ _ h => h) (Or.inl ⟨by rfl, ?hy17⟩) (by assumption) ?rest17
  case hy17 => (intro w hSw; (try dsimp only at hSw); go_simp <;> with_reducible rfl)
  try simp only [Act.put, List.getElem_toArray, List.getElem_cons_succ, List.getElem_cons_zero, List.setIfInBounds_toArray, List.set_cons_zero, List.set_cons_succ]
  refine wpAnyH_take (i := 18) (oi := _) (v := ?v18) rfl (by kernel_rfl) (by kernel_rfl) (by kernel_rfl) (fun _ _ _ h => h) (Or.inl ⟨by rfl, ?hy18⟩) (by assumption) ?rest18
  case hy18 => (intro w hSw; (try dsimp only at hSw); go_simp <;> with_reducible rfl)
  try simp only [Act.put, List.getElem_toArray, List.getElem_cons_succ, List.getElem_cons_zero, List.setIfInBounds_toArray, List.set_cons_zero, List.set_cons_succ]
  refine wpAnyH_take (i := 19) (oi := _) (v := ?v19) rfl (by kernel_rfl) (by kernel_rfl) (by kernel_rfl) (fun _ _ _ h => h) (Or.inl ⟨by rfl, ?hy19⟩) (by assumption) ?rest19
  case hy19 => (intro w hSw; (try dsimp only at hSw); go_simp <;> with_reducible rfl)
  try simp only [Act.put, List.getElem_toArray, List.getElem_cons_succ, List.getElem_cons_zero, List.setIfInBounds_toArray, List.set_cons_zero, List.set_cons_succ]
  refine wpAnyH_take (i := 20) (oi := _) (v := ?v20) rfl (by kernel_rfl) (by kernel_rfl) (by kernel_rfl) (fun _ _ _ h => h) (Or.inl ⟨by rfl, ?hy20⟩) (by assumption) ?rest20
  case hy20 => (intro w hSw; (try dsimp only at hSw); go_simp <;> with_reducible rfl)
  try simp only [Act.put, List.getElem_toArray, List.getElem_cons_succ, List.getElem_cons_zero, List.setIfInBounds_toArray, List.set_cons_zero, List.set_cons_succ]
  refine wpAnyH_take (i := 21) (oi := _) (v := ?v21) rfl (by kernel_rfl) (by kernel_rfl) (by kernel_rfl) (fun _ _ _ h => h) (Or.inl ⟨by rfl, ?hy21⟩) (by assumption) ?rest21
  case hy21 => (intro w hSw; (try dsimp only at hSw); go_simp <;> with_reducible rfl)
  try simp only [Act.put, List.getElem_toArray, List.getElem_cons_succ, List.getElem_cons_zero, List.setIfInBounds_toArray, List.set_cons_zero, List.set_cons_succ]
  refine wpAnyH_take (i := 22) (oi := _) (v := ?v22) rfl (by kernel_rfl) (by kernel_rfl) (by kernel_rfl) (fun _ _ _ h => h) (Or.inl ⟨by rfl, ?hy22⟩) (by assumption) ?rest22
  case hy22 => (intro w hSw; (try dsimp only at hSw); go_simp <;> with_reducible rfl)
  try simp only [Act.put, List.getElem_toArray, List.getElem_cons_succ, List.getElem_cons_zero, List.setIfInBounds_toArray, List.set_cons_zero, List.set_cons_succ]
  refine wpAnyH_take (i := 23) (oi := _) (v := ?v23) rfl (by kernel_rfl) (by kernel_rfl) (by kernel_rfl) (fun _ _ _ h => h) (Or.inl ⟨by rfl, ?hy23⟩) (by assumption) ?rest23
  case hy23 => (intro w hSw; (try dsimp only at hSw); go_simp <;> with_reducible rfl)
  try simp only [Act.put, List.getElem_toArray, List.getElem_cons_succ, List.getElem_cons_zero, List.setIfInBounds_toArray, List.set_cons_zero, List.set_cons_succ]
  refine wpAnyH_take (i := 24) (oi := _) (v := ?v24) rfl (by kernel_rfl) (by kernel_rfl) (by kernel_rfl) (fun _ _ _ h => h) (Or.inl ⟨by rfl, ?hy24⟩) (by assumption) ?rest24
  case hy24 => (intro w hSw; (try dsimp only at hSw); go_simp <;> with_reducible rfl)
  try simp only [Act.put, List.getElem_toArray, List.getElem_cons_succ, List.getElem_cons_zero, List.setIfInBounds_toArray, List.set_cons_zero, List.set_cons_succ]
  refine wpAnyH_take (i := 25) (oi := _) (v := ?v25) rfl (by kernel_rfl) (by kernel_rfl) (by kernel_rfl) (fun _ _ _ h => h) (Or.inl ⟨by rfl, ?hy25⟩) (by assumption) ?rest25
  case hy25 => (intro w hSw; (try dsimp only at hSw); go_simp <;> with_reducible rfl)
  try simp only [Act.put, List.getElem_toArray, List.getElem_cons_succ, List.getElem_cons_zero, List.setIfInBounds_toArray, List.set_cons_zero, List.set_cons_succ]
  refine wpAnyH_take (i := 26) (oi := _) (v := ?v26) rfl (by kernel_rfl) (by kernel_rfl) (by kernel_rfl) (fun _ _ _ h => h) (Or.inl ⟨by rfl, ?hy26⟩) (by assumption) ?rest26
  case hy26 => (intro w hSw; (try dsimp only at hSw); go_simp <;> with_reducible rfl)
  try simp only [Act.put, List.getElem_toArray, List.getElem_cons_succ, List.getElem_cons_zero, List.setIfInBounds_toArray, List.set_cons_zero, List.set_cons_succ]
  refine wpAnyH_take (i := 27) (oi := _) (v := ?v27) rfl (by kernel_rfl) (by kernel_rfl) (by kernel_rfl) (fun _ _ _ h => h) (Or.inl ⟨by rfl, ?hy27⟩) (by assumption) ?rest27
  case hy27 => (intro w hSw; (try dsimp only at hSw); go_simp <;> with_reducible rfl)
  try simp only [Act.put, List.getElem_toArray, List.getElem_cons_succ, List.getElem_cons_zero, List.setIfInBounds_toArray, List.set_cons_zero, List.set_cons_succ]
  refine wpAnyH_take (i := 28) (oi := _) (v := ?v28) rfl (by kernel_rfl) (by kernel_rfl) (by kernel_rfl) (fun _ _ _ h => h) (Or.inl ⟨by rfl, ?hy28⟩) (by assumption) ?rest28
  case hy28 => (intro w hSw; (try dsimp only at hSw); go_simp <;> with_reducible rfl)
  try simp only [Act.put, List.getElem_toArray, List.getElem_cons_succ, List.getElem_cons_zero, List.setIfInBounds_toArray, List.set_cons_zero, List.set_cons_succ]
  refine wpAnyH_take (i := 29) (oi := _) (v := ?v29) rfl (by kernel_rfl) (by kernel_rfl) (by kernel_rfl) (fun _ _ _ h => h) (Or.inl ⟨by rfl, ?hy29⟩) (by assumption) ?rest29
  case hy29 => (intro w hSw; (try dsimp only at hSw); go_simp <;> with_reducible rfl)
  try simp only [Act.put, List.getElem_toArray, List.getElem_cons_succ, List.getElem_cons_zero, List.setIfInBounds_toArray, List.set_cons_zero, List.set_cons_succ]
  refine wpAnyH_take (i := 31) (oi := _) (v := ?v31) rfl (by kernel_rfl) (by kernel_rfl) (by kernel_rfl) (fun _ _ _ h => h) (Or.inl ⟨by rfl, ?hy31⟩) (by assumption) ?rest31
  case hy31 => (intro w hSw; (try dsimp only at hSw); go_simp <;> with_reducible rfl)
  try simp only [Act.put, List.getElem_toArray, List.getElem_cons_succ, List.getElem_cons_zero, List.setIfInBounds_toArray, List.set_cons_zero, List.set_cons_succ]
  refine wpAnyH_take (i := 32) (oi := _) (v := ?v32) rfl (by kernel_rfl) (by kernel_rfl) (by kernel_rfl) (fun _ _ _ h => h) (Or.inl ⟨by rfl, ?hy32⟩) (by assumption) ?rest32
  case hy32 => (intro w hSw; (try dsimp only at hSw); go_simp <;> with_reducible rfl)
  try simp only [Act.put, List.getElem_toArray, List.getElem_cons_succ, List.getElem_cons_zero, List.setIfInBounds_toArray, List.set_cons_zero, List.set_cons_succ]
  refine wpAnyH_take (i := 33) (oi := _) (v := ?v33) rfl (by kernel_rfl) (by kernel_rfl) (by kernel_rfl) (fun _ _ _ h => h) (Or.inl ⟨by rfl, ?hy33⟩) (by assumption) ?rest33
  case hy33 => (intro w hSw; (try dsimp only at hSw); go_simp <;> with_reducible rfl)
  try simp only [Act.put, List.getElem_toArray, List.getElem_cons_succ, List.getElem_cons_zero, List.setIfInBounds_toArray, List.set_cons_zero, List.set_cons_succ]
  refine wpAnyH_take (i := 34) (oi := _) (v := ?v34) rfl (by kernel_rfl) (by kernel_rfl) (by kernel_rfl) (fun _ _ _ h => h) (Or.inl ⟨by rfl, ?hy34⟩) (by assumption) ?rest34
  case hy34 => (intro w hSw; (try dsimp only at hSw); go_simp <;> with_reducible rfl)
  try simp only [Act.put, List.getElem_toArray, List.getElem_cons_succ, List.getElem_cons_zero, List.setIfInBounds_toArray, List.set_cons_zero, List.set_cons_succ]
  refine wpAnyH_take (i := 35) (oi := _) (v := ?v35) rfl (by kernel_rfl) (by kernel_rfl) (by kernel_rfl) (fun _ _ _ h => h) (Or.inl ⟨by rfl, ?hy35⟩) (by assumption) ?rest35
  case hy35 => (intro w hSw; (try dsimp only at hSw); go_simp <;> with_reducible rfl)
  try simp only [Act.put, List.getElem_toArray, List.getElem_cons_succ, List.getElem_cons_zero, List.setIfInBounds_toArray, List.set_cons_zero, List.set_cons_succ]
  refine wpAnyH_take (i := 37) (oi := _) (v := ?v37) rfl (by kernel_rfl) (by kernel_rfl) (by kernel_rfl) (fun _ _ _ h => h) (Or.inl ⟨by rfl, ?hy37⟩) (by assumption) ?rest37
  case hy37 => (intro w hSw; (try dsimp only at hSw); go_simp <;> with_reducible rfl)
  try simp only [Act.put, List.getElem_toArray, List.getElem_cons_succ, List.getElem_cons_zero, List.setIfInBounds_toArray, List.set_cons_zero, List.set_cons_succ]
  refine wpAnyH_take (i := 38) (oi := _) (v := ?v38) rfl (by kernel_rfl) (by kernel_rfl) (by kernel_rfl) (fun _ _ _ h => h) (Or.inl ⟨by rfl, ?hy38⟩) (by assumption) ?rest38
  case hy38 => (intro w hSw; (try dsimp only at hSw); go_simp <;> with_reducible rfl)
  try simp only [Act.put, List.getElem_toArray, List.getElem_cons_succ, List.getElem_cons_zero, List.setIfInBounds_toArray, List.set_cons_zero, List.set_cons_succ]
  refine wpAnyH_take (i := 39) (oi := _) (v := ?v39) rfl (by kernel_rfl) (by kernel_rfl) (by kernel_rfl) (fun _ _ _ h => h) (Or.inl ⟨by rfl, ?hy39⟩) (by assumption) ?rest39
  case hy39 => (intro w hSw; (try dsimp only at hSw); go_simp <;> with_reducible rfl)
  try simp only [Act.put, List.getElem_toArray, List.getElem_cons_succ, List.getElem_cons_zero, List.setIfInBounds_toArray, List.set_cons_zero, List.set_cons_succ]
  refine wpAnyH_take (i := 40) (oi := _) (v := ?v40) rfl (by kernel_rfl) (by kernel_rfl) (by kernel_rfl) (fun _ _ _ h => h) (Or.inl ⟨by rfl, ?hy40⟩) (by assumption) ?rest40
  case hy40 => (intro w hSw; (try dsimp only at hSw); go_simp <;> with_reducible rfl)
  try simp only [Act.put, List.getElem_toArray, List.getElem_cons_succ, List.getElem_cons_zero, List.setIfInBounds_toArray, List.set_cons_zero, List.set_cons_succ]
  refine wpAnyH_take (i := 41) (oi := _) (v := ?v41) rfl (by kernel_rfl) (by kernel_rfl) (by kernel_rfl) (fun _ _ _ h => h) (Or.inl ⟨by rfl, ?hy41⟩) (by assumption) ?rest41
  case hy41 => (intro w hSw; (try dsimp only at hSw); go_simp <;> with_reducible rfl)
  try simp only [Act.put, List.getElem_toArray, List.getElem_cons_succ, List.getElem_cons_zero, List.setIfInBounds_toArray, List.set_cons_zero, List.set_cons_succ]
  refine wpAnyH_take (i := 43) (oi := _) (v := ?v43) rfl (by kernel_rfl) (by kernel_rfl) (by kernel_rfl) (fun _ _ _ h => h) (Or.inl ⟨by rfl, ?hy43⟩) (by assumption) ?rest43
  case hy43 => (intro w hSw; (try dsimp only at hSw); go_simp <;> with_reducible rfl)
  try simp only [Act.put, List.getElem_toArray, List.getElem_cons_succ, List.getElem_cons_zero, List.setIfInBounds_toArray, List.set_cons_zero, List.set_cons_succ]
  refine wpAnyH_take (i := 44) (oi := _) (v := ?v44) rfl (by kernel_rfl) (by kernel_rfl) (by kernel_rfl) (fun _ _ _ h => h) (Or.inl ⟨by rfl, ?hy44⟩) (by assumption) ?rest44
  case hy44 => (intro w hSw; (try dsimp only at hSw); go_simp <;> with_reducible rfl)
  try simp only [Act.put, List.getElem_toArray, List.getElem_cons_succ, List.getElem_cons_zero, List.setIfInBounds_toArray, List.set_cons_zero, List.set_cons_succ]
  refine wpAnyH_take (i := 45) (oi := _) (v := ?v45) rfl (by kernel_rfl) (by kernel_rfl) (by kernel_rfl) (fun _ _ _ h => h) (Or.inl ⟨by rfl, ?hy45⟩) (by assumption) ?rest45
  case hy45 => (intro w hSw; (try dsimp only at hSw); go_simp <;> with_reducible rfl)
  try simp only [Act.put, List.getElem_toArray, List.getElem_cons_succ, List.getElem_cons_zero, List.setIfInBounds_toArray, List.set_cons_zero, List.set_cons_succ]
  refine wpAnyH_take (i := 46) (oi := _) (v := ?v46) rfl (by kernel_rfl) (by kernel_rfl) (by kernel_rfl) (fun _ _ _ h => h) (Or.inl ⟨by rfl, ?hy46⟩) (by assumption) ?rest46
  case hy46 => (intro w hSw; (try dsimp only at hSw); go_simp <;> with_reducible rfl)
  try simp only [Act.put, List.getElem_toArray, List.getElem_cons_succ, List.getElem_cons_zero, List.setIfInBounds_toArray, List.set_cons_zero, List.set_cons_succ]
  refine wpAnyH_ready (rs := [5]) (by kernel_rfl) (by simp) ?_
  refine AllReadyH.cons (o := _) rfl (fun K hK => ?_) AllReadyH.nil
  go_simp
  (go_at_call 44; refine (rect_any x0 y0 x1 y1 _).mono ?_; rintro e u1 ⟨rfl, hv1⟩; have P1 : Below w.heap.size w u1 := P0.trans (hv1.mono P0.size); have Z1 := Lib.hid (heap_kept Z0.out hv1))
  refine hK.out _ _ ?_ (fun hHeld => ?_)
  · (first | (refine TOS.out _ ?_; first | with_reducible exact P5 | with_reducible exact P4 | with_reducible exact P3 | with_reducible exact P2 | with_reducible exact P1 | with_reducible exact P0))
  clear hK K
  try simp only [Act.put, List.getElem_toArray, List.getElem_cons_succ, List.getElem_cons_zero, List.setIfInBounds_toArray, List.set_cons_zero, List.set_cons_succ]
  refine wpAnyH_ready (rs := [30]) (by kernel_rfl) (by simp) ?_
  refine AllReadyH.cons (o := _) rfl (fun K hK => ?_) AllReadyH.nil
  go_simp
  (go_at_call 45; refine (bytesOf_any A1 c1 z1 _ ?_ hl1 hn1.out).mono ?_; exact hr1.out.below P1; rintro e u2 ⟨B1, e1, rfl, ho1, hv2⟩; have HO1 := Lib.hid (ownsRow_base (base := w.heap.size) ho1 P1.size); have P2 : Below w.heap.size w u2 := P1.trans (hv2.mono P1.size); have Z2 := Lib.hid (heap_kept Z1.out hv2); clear ho1)
  refine hK.out _ _ ?_ (fun hHeld => ?_)
  · (first | (refine TOS.out _ ?_; first | with_reducible exact P5 | with_reducible exact P4 | with_reducible exact P3 | with_reducible exact P2 | with_reducible exact P1 | with_reducible exact P0))
  clear hK K
  try simp only [Act.put, List.getElem_toArray, List.getElem_cons_succ, List.getElem_cons_zero, List.setIfInBounds_toArray, List.set_cons_zero, List.set_cons_succ]
  refine wpAnyH_ready (rs := [36]) (by kernel_rfl) (by simp) ?_
  refine AllReadyH.cons (o := _) rfl (fun K hK => ?_) AllReadyH.nil
  go_simp
  (go_at_call 45; refine (bytesOf_any A2 c2 z2 _ ?_ hl2 hn2.out).mono ?_; exact hr2.out.below P2; rintro e u3 ⟨B2, e2, rfl, ho2, hv3⟩; replace HO1 := Lib.hid (ownsRow_below HO1.out hv3); have HO2 := Lib.hid (ownsRow_base (base := w.heap.size) ho2 P2.size); have P3 : Below w.heap.size w u3 := P2.trans (hv3.mono P2.size); have Z3 := Lib.hid (heap_kept Z2.out hv3); clear ho2)
  refine hK.out _ _ ?_ (fun hHeld => ?_)
  · (first | (refine TOS.out _ ?_; first | with_reducible exact P5 | with_reducible exact P4 | with_reducible exact P3 | with_reducible exact P2 | with_reducible exact P1 | with_reducible exact P0))
  clear hK K
  try simp only [Act.put, List.getElem_toArray, List.getElem_cons_succ, List.getElem_cons_zero, List.setIfInBounds_toArray, List.set_cons_zero, List.set_cons_succ]
  refine wpAnyH_ready (rs := [42]) (by kernel_rfl) (by simp) ?_
  refine AllReadyH.cons (o := _) rfl (fun K hK => ?_) AllReadyH.nil
  go_simp
  (go_at_call 45; refine (bytesOf_any A3 c3 z3 _ ?_ hl3 hn3.out).mono ?_; exact hr3.out.below P3; rintro e u4 ⟨B3, e3, rfl, ho3, hv4⟩; replace HO1 := Lib.hid (ownsRow_below HO1.out hv4); replace HO2 := Lib.hid (ownsRow_below HO2.out hv4); have HO3 := Lib.hid (ownsRow_base (base := w.heap.size) ho3 P3.size); have P4 : Below w.heap.size w u4 := P3.trans (hv4.mono P3.size); have Z4 := Lib.hid (heap_kept Z3.out hv4); clear ho3)
  refine hK.out _ _ ?_ (fun hHeld => ?_)
  · (first | (refine TOS.out _ ?_; first | with_reducible exact P5 | with_reducible exact P4 | with_reducible exact P3 | with_reducible exact P2 | with_reducible exact P1 | with_reducible exact P0))
  clear hK K
  try simp only [Act.put, List.getElem_toArray, List.getElem_cons_succ, List.getElem_cons_zero, List.setIfInBounds_toArray, List.set_cons_zero, List.set_cons_succ]
  refine wpAnyH_ready (rs := [47]) (by kernel_rfl) (by simp) ?_
  refine AllReadyH.cons (o := _) rfl (fun K hK => ?_) AllReadyH.nil
  go_simp
  (go_at_call 45; refine (bytesOf_any A4 c4 z4 _ ?_ hl4 hn4.out).mono ?_; exact hr4.out.below P4; rintro e u5 ⟨B4, e4, rfl, ho4, hv5⟩; replace HO1 := Lib.hid (ownsRow_below HO1.out hv5); replace HO2 := Lib.hid (ownsRow_below HO2.out hv5); replace HO3 := Lib.hid (ownsRow_below HO3.out hv5); have HO4 := Lib.hid (ownsRow_base (base := w.heap.size) ho4 P4.size); have P5 : Below w.heap.size w u5 := P4.trans (hv5.mono P4.size); have Z5 := Lib.hid (heap_kept Z4.out hv5); clear ho4; have zc0 := row_cell (i := 0) (v := .int .i64 0) Z5.out rfl; have zf0 := frozen_of_row _ _ 0 _ _ Z5.out; have zc1 := row_cell (i := 1) (v := .int .i64 0) Z5.out rfl; have zf1 := frozen_of_row _ _ 1 _ _ Z5.out; have zc2 := row_cell (i := 2) (v := .int .i64 0) Z5.out rfl; have zf2 := frozen_of_row _ _ 2 _ _ Z5.out; have zc3 := row_cell (i := 3) (v := .int .i64 0) Z5.out rfl; have zf3 := frozen_of_row _ _ 3 _ _ Z5.out; have zc4 := row_cell (i := 4) (v := .int .i64 0) Z5.out rfl; have zf4 := frozen_of_row _ _ 4 _ _ Z5.out; have zc5 := row_cell (i := 5) (v := .int .i64 0) Z5.out rfl; have zf5 := frozen_of_row _ _ 5 _ _ Z5.out; have zc6 := row_cell (i := 6) (v := .int .i64 0) Z5.out rfl; have zf6 := frozen_of_row _ _ 6 _ _ Z5.out; have zc7 := row_cell (i := 7) (v := .int .i64 0) Z5.out rfl; have zf7 := frozen_of_row _ _ 7 _ _ Z5.out; have zc8 := row_cell (i := 8) (v := .slice none 0 0) Z5.out rfl; have zf8 := frozen_of_row _ _ 8 _ _ Z5.out; have zc9 := row_cell (i := 9) (v := .slice none 0 0) Z5.out rfl; have zf9 := frozen_of_row _ _ 9 _ _ Z5.out; have zc10 := row_cell (i := 10) (v := .slice none 0 0) Z5.out rfl; have zf10 := frozen_of_row _ _ 10 _ _ Z5.out; have zc11 := row_cell (i := 11) (v := .slice none 0 0) Z5.out rfl; have zf11 := frozen_of_row _ _ 11 _ _ Z5.out)
  refine hK.out _ _ ?_ (fun hHeld => ?_)
  · (first | (refine TOS.out _ ?_; first | with_reducible exact P5 | with_reducible exact P4 | with_reducible exact P3 | with_reducible exact P2 | with_reducible exact P1 | with_reducible exact P0))
  clear hK K
  try simp only [Act.put, List.getElem_toArray, List.getElem_cons_succ, List.getElem_cons_zero, List.setIfInBounds_toArray, List.set_cons_zero, List.set_cons_succ]
  refine wpAnyH_take (i := 48) (oi := _) (v := ?v48) rfl (by kernel_rfl) (by kernel_rfl) (by kernel_rfl) (fun _ _ _ h => h) (Or.inl ⟨by rfl, ?hy48⟩) (by assumption) ?rest48
  case hy48 => (intro w hSw; (try dsimp only at hSw); go_simp <;> with_reducible rfl)
  try simp only [Act.put, List.getElem_toArray, List.getElem_cons_succ, List.getElem_cons_zero, List.setIfInBounds_toArray, List.set_cons_zero, List.set_cons_succ]
  refine wpAnyH_ready (rs := [49]) (by kernel_rfl) (by simp) ?_
  refine AllReadyH.cons (o := _) rfl (fun K hK => ?_) AllReadyH.nil
  go_simp
  refine hK.out _ _ ?_ (fun hHeld => ?_)
  · (obtain ⟨s0, s1, s2, s3, s4, s5, s6, s7, s8, s9, s10, s11⟩ := TOS.out _ P5; exact ⟨sets12_other hgn s0, sets12_other hgn s1, sets12_other hgn s2, sets12_other hgn s3, sets12_other hgn s4, sets12_other hgn s5, sets12_other hgn s6, sets12_other hgn s7, sets12_other hgn s8, sets12_other hgn s9, sets12_other hgn s10, sets12_other hgn s11⟩)
  clear hK K
  try simp only [Act.put, List.getElem_toArray, List.getElem_cons_succ, List.getElem_cons_zero, List.setIfInBounds_toArray, List.set_cons_zero, List.set_cons_succ]
  refine wpAnyH_done (by kernel_rfl) ?_ _
  clear zc0 zf0 zc1 zf1 zc2 zf2 zc3 zf3 zc4 zf4 zc5 zf5 zc6 zf6 zc7 zf7 zc8 zf8 zc9 zf9 zc10 zf10 zc11 zf11
  have HF : Hid (((((((((((((u5.setCell ⟨w.heap.size, 0, none⟩ (.int .i64 x0)).setCell ⟨w.heap.size, 1, none⟩ (.int .i64 y0)).setCell ⟨w.heap.size, 2, none⟩ (.int .i64 x1)).setCell ⟨w.heap.size, 3, none⟩ (.int .i64 y1)).setCell ⟨w.heap.size, 4, none⟩ (.int .i64 rt)).setCell ⟨w.heap.size, 5, none⟩ (.int .i64 ys)).setCell ⟨w.heap.size, 6, none⟩ (.int .i64 cs)).setCell ⟨w.heap.size, 7, none⟩ (.int .i64 at4)).setCell ⟨w.heap.size, 8, none⟩ (.slice B1 z1.length e1)).setCell ⟨w.heap.size, 9, none⟩ (.slice B2 z2.length e2)).setCell ⟨w.heap.size, 10, none⟩ (.slice B3 z3.length e3)).setCell ⟨w.heap.size, 11, none⟩ (.slice B4 z4.length e4)).heap[w.heap.size]? = some (.cells #[.int .i64 x0, .int .i64 y0, .int .i64 x1, .int .i64 y1, .int .i64 rt, .int .i64 ys, .int .i64 cs, .int .i64 at4, .slice B1 z1.length e1, .slice B2 z2.length e2, .slice B3 z3.length e3, .slice B4 z4.length e4] 30 (0, 0))) := sets12 Z5.out
  have HB : Below w.heap.size w ((((((((((((u5.setCell ⟨w.heap.size, 0, none⟩ (.int .i64 x0)).setCell ⟨w.heap.size, 1, none⟩ (.int .i64 y0)).setCell ⟨w.heap.size, 2, none⟩ (.int .i64 x1)).setCell ⟨w.heap.size, 3, none⟩ (.int .i64 y1)).setCell ⟨w.heap.size, 4, none⟩ (.int .i64 rt)).setCell ⟨w.heap.size, 5, none⟩ (.int .i64 ys)).setCell ⟨w.heap.size, 6, none⟩ (.int .i64 cs)).setCell ⟨w.heap.size, 7, none⟩ (.int .i64 at4)).setCell ⟨w.heap.size, 8, none⟩ (.slice B1 z1.length e1)).setCell ⟨w.heap.size, 9, none⟩ (.slice B2 z2.length e2)).setCell ⟨w.heap.size, 10, none⟩ (.slice B3 z3.length e3)).setCell ⟨w.heap.size, 11, none⟩ (.slice B4 z4.length e4)) := sets12_below P5 (Nat.le_refl _)
  have HW1 : Hid (((((((((((((u5.setCell ⟨w.heap.size, 0, none⟩ (.int .i64 x0)).setCell ⟨w.heap.size, 1, none⟩ (.int .i64 y0)).setCell ⟨w.heap.size, 2, none⟩ (.int .i64 x1)).setCell ⟨w.heap.size, 3, none⟩ (.int .i64 y1)).setCell ⟨w.heap.size, 4, none⟩ (.int .i64 rt)).setCell ⟨w.heap.size, 5, none⟩ (.int .i64 ys)).setCell ⟨w.heap.size, 6, none⟩ (.int .i64 cs)).setCell ⟨w.heap.size, 7, none⟩ (.int .i64 at4)).setCell ⟨w.heap.size, 8, none⟩ (.slice B1 z1.length e1)).setCell ⟨w.heap.size, 9, none⟩ (.slice B2 z2.length e2)).setCell ⟨w.heap.size, 10, none⟩ (.slice B3 z3.length e3)).setCell ⟨w.heap.size, 11, none⟩ (.slice B4 z4.length e4)).ownsRow w.heap.size 5 1 (.slice B1 z1.length e1) z1.length (z1.map (Value.int .u8))) := sets12_own HO1.out Z5.out (by decide)
  have HW2 : Hid (((((((((((((u5.setCell ⟨w.heap.size, 0, none⟩ (.int .i64 x0)).setCell ⟨w.heap.size, 1, none⟩ (.int .i64 y0)).setCell ⟨w.heap.size, 2, none⟩ (.int .i64 x1)).setCell ⟨w.heap.size, 3, none⟩ (.int .i64 y1)).setCell ⟨w.heap.size, 4, none⟩ (.int .i64 rt)).setCell ⟨w.heap.size, 5, none⟩ (.int .i64 ys)).setCell ⟨w.heap.size, 6, none⟩ (.int .i64 cs)).setCell ⟨w.heap.size, 7, none⟩ (.int .i64 at4)).setCell ⟨w.heap.size, 8, none⟩ (.slice B1 z1.length e1)).setCell ⟨w.heap.size, 9, none⟩ (.slice B2 z2.length e2)).setCell ⟨w.heap.size, 10, none⟩ (.slice B3 z3.length e3)).setCell ⟨w.heap.size, 11, none⟩ (.slice B4 z4.length e4)).ownsRow w.heap.size 5 1 (.slice B2 z2.length e2) z2.length (z2.map (Value.int .u8))) := sets12_own HO2.out Z5.out (by decide)
  have HW3 : Hid (((((((((((((u5.setCell ⟨w.heap.size, 0, none⟩ (.int .i64 x0)).setCell ⟨w.heap.size, 1, none⟩ (.int .i64 y0)).setCell ⟨w.heap.size, 2, none⟩ (.int .i64 x1)).setCell ⟨w.heap.size, 3, none⟩ (.int .i64 y1)).setCell ⟨w.heap.size, 4, none⟩ (.int .i64 rt)).setCell ⟨w.heap.size, 5, none⟩ (.int .i64 ys)).setCell ⟨w.heap.size, 6, none⟩ (.int .i64 cs)).setCell ⟨w.heap.size, 7, none⟩ (.int .i64 at4)).setCell ⟨w.heap.size, 8, none⟩ (.slice B1 z1.length e1)).setCell ⟨w.heap.size, 9, none⟩ (.slice B2 z2.length e2)).setCell ⟨w.heap.size, 10, none⟩ (.slice B3 z3.length e3)).setCell ⟨w.heap.size, 11, none⟩ (.slice B4 z4.length e4)).ownsRow w.heap.size 5 1 (.slice B3 z3.length e3) z3.length (z3.map (Value.int .u8))) := sets12_own HO3.out Z5.out (by decide)
  have HW4 : Hid (((((((((((((u5.setCell ⟨w.heap.size, 0, none⟩ (.int .i64 x0)).setCell ⟨w.heap.size, 1, none⟩ (.int .i64 y0)).setCell ⟨w.heap.size, 2, none⟩ (.int .i64 x1)).setCell ⟨w.heap.size, 3, none⟩ (.int .i64 y1)).setCell ⟨w.heap.size, 4, none⟩ (.int .i64 rt)).setCell ⟨w.heap.size, 5, none⟩ (.int .i64 ys)).setCell ⟨w.heap.size, 6, none⟩ (.int .i64 cs)).setCell ⟨w.heap.size, 7, none⟩ (.int .i64 at4)).setCell ⟨w.heap.size, 8, none⟩ (.slice B1 z1.length e1)).setCell ⟨w.heap.size, 9, none⟩ (.slice B2 z2.length e2)).setCell ⟨w.heap.size, 10, none⟩ (.slice B3 z3.length e3)).setCell ⟨w.heap.size, 11, none⟩ (.slice B4 z4.length e4)).ownsRow w.heap.size 5 1 (.slice B4 z4.length e4) z4.length (z4.map (Value.int .u8))) := sets12_own HO4.out Z5.out (by decide)
  generalize ((((((((((((u5.setCell ⟨w.heap.size, 0, none⟩ (.int .i64 x0)).setCell ⟨w.heap.size, 1, none⟩ (.int .i64 y0)).setCell ⟨w.heap.size, 2, none⟩ (.int .i64 x1)).setCell ⟨w.heap.size, 3, none⟩ (.int .i64 y1)).setCell ⟨w.heap.size, 4, none⟩ (.int .i64 rt)).setCell ⟨w.heap.size, 5, none⟩ (.int .i64 ys)).setCell ⟨w.heap.size, 6, none⟩ (.int .i64 cs)).setCell ⟨w.heap.size, 7, none⟩ (.int .i64 at4)).setCell ⟨w.heap.size, 8, none⟩ (.slice B1 z1.length e1)).setCell ⟨w.heap.size, 9, none⟩ (.slice B2 z2.length e2)).setCell ⟨w.heap.size, 10, none⟩ (.slice B3 z3.length e3)).setCell ⟨w.heap.size, 11, none⟩ (.slice B4 z4.length e4)) = wz at *
  clear TOS hHeld HO1 HO2 HO3 HO4
  have r0 := row_cell (i := 0) (v := .int .i64 x0) HF.out rfl
  have r1 := row_cell (i := 1) (v := .int .i64 y0) HF.out rfl
  have r2 := row_cell (i := 2) (v := .int .i64 x1) HF.out rfl
  have r3 := row_cell (i := 3) (v := .int .i64 y1) HF.out rfl
  have r4 := row_cell (i := 4) (v := .int .i64 rt) HF.out rfl
  have r5 := row_cell (i := 5) (v := .int .i64 ys) HF.out rfl
  have r6 := row_cell (i := 6) (v := .int .i64 cs) HF.out rfl
  have r7 := row_cell (i := 7) (v := .int .i64 at4) HF.out rfl
  have r8 := row_cell (i := 8) (v := .slice B1 z1.length e1) HF.out rfl
  have r9 := row_cell (i := 9) (v := .slice B2 z2.length e2) HF.out rfl
  have r10 := row_cell (i := 10) (v := .slice B3 z3.length e3) HF.out rfl
  have r11 := row_cell (i := 11) (v := .slice B4 z4.length e4) HF.out rfl
  go_wp2
  exact bodyPost_ret (v := .agg #[.int .i64 x0, .int .i64 y0, .int .i64 x1, .int .i64 y1, .int .i64 rt, .int .i64 ys, .int .i64 cs, .int .i64 at4, .slice B1 z1.length e1, .slice B2 z2.length e2, .slice B3 z3.length e3, .slice B4 z4.length e4]) (by simp [results, Try.results31, go_sem, r0, r1, r2, r3, r4, r5, r6, r7, r8, r9, r10, r11]) rfl ⟨B1, B2, B3, B4, e1, e2, e3, e4, rfl, HW1.out, HW2.out, HW3.out, HW4.out, HB⟩

end Go.Proofs.Ytcomldkihibfjaa
